import Derived.Test.YbulkhjcBx7
import Derived.OwnWalk
namespace Go.Proofs.Ybulkhjc.Bx
open Go.RowKit

/-! the plain side -/
/-- one block of the forward step -/
def stepL (n s j b : Nat) (hm : Nat → Nat) (rj k : Nat) (l : List (Nat × Nat)) : List (Nat × Nat) :=
  if (hm (k - 1)).testBit (j - 1) = true then l
  else if (popTo (hm (k - 1) &&& rj) n : Int) < (b : Int) - k - 1 ∨ (b : Int) - k < (popTo (hm (k - 1) &&& rj) n : Int) then l
  else if pick n (hm (k - 1)) rj s l j k = 0 then l else l ++ [(k, pick n (hm (k - 1)) rj s l j k)]
/-- c blocks from lo on -/
def outL (n s j b : Nat) (hm : Nat → Nat) (rj lo : Nat) (l0 : List (Nat × Nat)) : Nat → List (Nat × Nat)
  | 0 => l0
  | c + 1 => stepL n s j b hm rj (lo + c) (outL n s j b hm rj lo l0 c)
/-- what designate hands back -/
def res (n t s j b a : Nat) (hm : Nat → Nat) (rj : Nat) (l0 : List (Nat × Nat)) : List (Nat × Nat) :=
  if a = 0 then l0 else outL n s j b hm rj (max a (b - t)) l0 (min b n + 1 - max a (b - t))
theorem stepL_len (n s j b : Nat) (hm : Nat → Nat) (rj k : Nat) (l : List (Nat × Nat)) : (stepL n s j b hm rj k l).length ≤ l.length + 1 := by
  unfold stepL
  split
  · omega
  · split
    · omega
    · split <;> simp
theorem outL_len (n s j b : Nat) (hm : Nat → Nat) (rj lo : Nat) (l0 : List (Nat × Nat)) : ∀ c, (outL n s j b hm rj lo l0 c).length ≤ l0.length + c
  | 0 => Nat.le_refl _
  | c + 1 => by
    have := outL_len n s j b hm rj lo l0 c
    have := stepL_len n s j b hm rj (lo + c) (outL n s j b hm rj lo l0 c)
    simp only [outL]; omega

def cellsD : List (Nat × Nat) → List Value
  | [] => []
  | d :: l => .int .i64 d.1 :: .int .i64 d.2 :: cellsD l
theorem cellsD_len : ∀ l, (cellsD l).length = l.length * 2
  | [] => rfl
  | _ :: l => by simp only [cellsD, List.length_cons, cellsD_len l]; omega
theorem cellsD_append : ∀ l l', cellsD (l ++ l') = cellsD l ++ cellsD l'
  | [], _ => rfl
  | d :: l, l' => by simp only [List.cons_append, cellsD, cellsD_append l l']
theorem cellsD_get : ∀ (l : List (Nat × Nat)) (i : Nat) (h : i < l.length), (cellsD l)[i * 2]? = some (.int .i64 (l[i]).1) ∧ (cellsD l)[i * 2 + 1]? = some (.int .i64 (l[i]).2)
  | [], i, h => absurd h (by simp)
  | d :: l, 0, _ => by simp [cellsD]
  | d :: l, i + 1, h => by
    have := cellsD_get l i (by simpa using h)
    have e : (i + 1) * 2 = i * 2 + 1 + 1 := by omega
    rw [e]
    simp only [cellsD, List.getElem?_cons_succ, List.getElem_cons_succ]
    exact this

theorem dsAt_of {w : World} {B g cap : Nat} {l : List (Nat × Nat)} (h : w.ownsRow B 57 2 (.slice (some ⟨g, 0, none⟩) l.length cap) l.length (cellsD l)) : DsAt w g l := fun i hi => by
  have hc := cellsD_get l i hi
  exact ⟨(h.cellAt (i * 2) (by omega)).trans hc.1, (h.cellAt (i * 2 + 1) (by omega)).trans hc.2⟩

structure PW (B : Nat) (w : World) (p hb rb wb n t s j a L : Nat) (hm rm : Nat → Nat) : Prop where
  cN : w.cell? ⟨p, 0, none⟩ = some (.int .i64 n)
  cT : w.cell? ⟨p, 1, none⟩ = some (.int .i64 t)
  cS : w.cell? ⟨p, 2, none⟩ = some (.int .i64 s)
  cH : w.cell? ⟨p, 8, none⟩ = some (.slice (some ⟨hb, 0, none⟩) n n)
  cR : w.cell? ⟨p, 16, none⟩ = some (.slice (some ⟨rb, 0, none⟩) n n)
  cW : w.cell? ⟨p, 21, none⟩ = some (.slice (some ⟨wb, 0, none⟩) n n)
  cA : w.cell? ⟨wb, j - 1, none⟩ = some (.int .i64 a)
  H : ∀ i, i < n → ∃ g, w.cell? ⟨hb, i, none⟩ = some (.slice (some ⟨g, 0, none⟩) L L) ∧ SetAt w g L (hm i) ∧ g < B
  R : ∀ i, i < n → ∃ g, w.cell? ⟨rb, i, none⟩ = some (.slice (some ⟨g, 0, none⟩) L L) ∧ SetAt w g L (rm i) ∧ g < B
  p1 : p < B
  p2 : hb < B
  p3 : rb < B
  p4 : wb < B
  p5 : B ≤ w.heap.size

theorem PW.below {B : Nat} {w w' : World} {p hb rb wb n t s j a L : Nat} {hm rm : Nat → Nat} (h : PW B w p hb rb wb n t s j a L hm rm) (b : Below B w w') : PW B w' p hb rb wb n t s j a L hm rm := by
  have hc : ∀ x o v, x < B → w.cell? ⟨x, o, none⟩ = some v → w'.cell? ⟨x, o, none⟩ = some v := fun x o v hx e => (b.cell (p := ⟨x, o, none⟩) hx).trans e
  refine ⟨hc _ _ _ h.p1 h.cN, hc _ _ _ h.p1 h.cT, hc _ _ _ h.p1 h.cS, hc _ _ _ h.p1 h.cH, hc _ _ _ h.p1 h.cR, hc _ _ _ h.p1 h.cW, hc _ _ _ h.p4 h.cA, fun i hi => ?_, fun i hi => ?_, h.p1, h.p2, h.p3, h.p4, Nat.le_trans h.p5 b.size⟩
  · obtain ⟨g, h1, h2, h3⟩ := h.H i hi
    exact ⟨g, hc _ _ _ h.p2 h1, fun i hi => hc _ _ _ h3 (h2 i hi), h3⟩
  · obtain ⟨g, h1, h2, h3⟩ := h.R i hi
    exact ⟨g, hc _ _ _ h.p3 h1, fun i hi => hc _ _ _ h3 (h2 i hi), h3⟩

/-- a row of designations of the call's own -/
def Own (w : World) (B : Nat) (v : Value) (l : List (Nat × Nat)) : Prop :=
  ∃ g cap, v = .slice (some ⟨g, 0, none⟩) l.length cap ∧ g < w.heap.size ∧ w.ownsRow B 57 2 (.slice (some ⟨g, 0, none⟩) l.length cap) l.length (cellsD l)
def DPost (B : Nat) (w : World) (l : List (Nat × Nat)) (e : Ending) (w' : World) : Prop := ∃ v, e = .returned v ∧ Own w' B v l ∧ Below B w w'

theorem below_drewN (B : Nat) (w : World) (q : Nat) : Below B w (w.drewN q) := by
  induction q with
  | zero => exact Below.refl _ _
  | succ q ih => rw [← World.drew_drewN]; exact ih.drew
theorem Own.below {w w' : World} {B : Nat} {v : Value} {l : List (Nat × Nat)} (h : Own w B v l) (b : Below w.heap.size w w') : Own w' B v l := by
  obtain ⟨g, cap, rfl, hg, ho⟩ := h
  refine ⟨g, cap, rfl, Nat.lt_of_lt_of_le hg b.size, ho.1, ?_⟩
  rcases ho.2 with ⟨h, _⟩ | ⟨g', cap', cur, hv, hb, hh, rest⟩
  · cases h
  · refine .inr ⟨g', cap', cur, hv, hb, ?_, rest⟩
    have e : g = g' := by cases hv; rfl
    rw [b.block g' (e ▸ hg)]; exact hh
theorem info57 : (Yba.prog.info? 57).map (fun i => (i.zero, i.size, i.bytes)) = some (some (.agg #[.int .i64 0, .int .i64 0]), 2, 16) := by kernel_rfl
theorem own_appended {w : World} {B : Nat} {v : Value} {l : List (Nat × Nat)} {k f : Nat} (h : w.ownsRow B 57 2 v (l.length + 1) (cellsD l ++ [.int .i64 k, .int .i64 f])) : Own w B v (l ++ [(k, f)]) := by
  have e : cellsD (l ++ [(k, f)]) = cellsD l ++ [.int .i64 k, .int .i64 f] := by rw [cellsD_append]; rfl
  have el : (l ++ [(k, f)]).length = l.length + 1 := by simp
  rcases h.2 with ⟨_, h0⟩ | ⟨g, cap, cur, hv, hb, hh, rest⟩
  · omega
  · have hlt := (h.lt g (by rw [hv]; rfl)).2
    subst hv
    exact ⟨g, cap, by rw [el], hlt, by rw [el, e]; exact h⟩

def DRel (B : Nat) (w : World) (n s j b : Nat) (hm : Nat → Nat) (rj lo hi : Nat) (l0 : List (Nat × Nat)) (ds kv : Value) (wr : World) : Prop :=
  ∃ c, (c = 0 ∨ lo + c ≤ hi + 1) ∧ kv = .int .i64 (lo + c : Nat) ∧ Own wr B ds (outL n s j b hm rj lo l0 c) ∧ Below B w wr

set_option maxRecDepth 100000 in
set_option maxHeartbeats 4000000 in
theorem designate_any (B p hb rb wb n t s j a b L : Nat) (hm rm : Nat → Nat) (l0 : List (Nat × Nat)) (g cap : Nat) (w : World) (hn : n ≤ 16) (hL : L = (n + 7) / 8) (hj1 : 1 ≤ j) (hj2 : j ≤ n) (ht : t ≤ 16) (hb48 : b ≤ 48) (ha : a ≤ n) (hs : s ≤ 16)
    (hmm : ∀ i, hm i < 2 ^ n) (hrr : ∀ i, rm i < 2 ^ n) (hl : l0.length ≤ 1024) (hg : g < w.heap.size) (hP : PW B w p hb rb wb n t s j a L hm rm) (hO : w.ownsRow B 57 2 (.slice (some ⟨g, 0, none⟩) l0.length cap) l0.length (cellsD l0)) :
    Calls Yba.prog 12 #[.pointer (some ⟨p, 0, none⟩), .int .i64 b, .int .i64 j, .slice (some ⟨g, 0, none⟩) l0.length cap] w (DPost B w (res n t s j b a hm (rm (j - 1)) l0)) := by
  have HP : Hid (PW B w p hb rb wb n t s j a L hm rm) := hP
  have HO : Hid (w.ownsRow B 57 2 (.slice (some ⟨g, 0, none⟩) l0.length cap) l0.length (cellsD l0)) := hO
  have cN := hP.cN
  have cT := hP.cT
  have cW := hP.cW
  have cA := hP.cA
  clear hP hO
  have HMM : Hid (∀ i, hm i < 2 ^ n) := hmm
  have HRR : Hid (∀ i, rm i < 2 ^ n) := hrr
  clear hmm hrr
  by_cases ha0 : a = 0
  · have hab : ((a : Int) == 0) = true := by simp [ha0]
    have HR : Hid (res n t s j b a hm (rm (j - 1)) l0 = l0) := by show _ = _; simp [res, ha0]
    rw [HR.out]
    clear ha0
    go_enter Yba.func12, Yba.ntmps12
    go_wp2
    go_ret
    exact ⟨_, rfl, ⟨g, cap, rfl, hg, HO.out⟩, Below.refl _ _⟩
  · have hab : ((a : Int) == 0) = false := by simp [ha0]
    obtain ⟨i57, hi57, hz57⟩ := Option.map_eq_some_iff.1 info57
    simp only [Prod.mk.injEq] at hz57
    obtain ⟨hz57, hs57, hb57⟩ := hz57
    obtain ⟨lo, elo⟩ : ∃ lo, lo = max a (b - t) := ⟨_, rfl⟩
    obtain ⟨hi, ehi⟩ : ∃ hi, hi = min b n := ⟨_, rfl⟩
    have hmax : max (a : Int) ((b : Int) - t) = (lo : Int) := by omega
    have hmin : min (b : Int) (n : Int) = (hi : Int) := by omega
    have HRes : Hid (res n t s j b a hm (rm (j - 1)) l0 = outL n s j b hm (rm (j - 1)) lo l0 (hi + 1 - lo)) := by show _ = _; unfold res; rw [if_neg ha0, elo, ehi]
    have hlo1 : 1 ≤ lo := by omega
    have hlo2 : lo ≤ 48 := by omega
    have hhi : hi ≤ n := by omega
    have hhb : hi ≤ b := by omega
    rw [HRes.out]
    clear elo ehi
    have HIn : Hid (Yba.prog.info? 57 = some i57 ∧ i57.zero = some (.agg #[.int .i64 0, .int .i64 0]) ∧ i57.size = 2 ∧ i57.bytes = 16) := ⟨hi57, hz57, hs57, hb57⟩
    clear hi57 hz57 hs57 hb57
    obtain ⟨rj, erj⟩ : ∃ rj, rm (j - 1) = rj := ⟨_, rfl⟩
    have HRj : Hid (rm (j - 1) = rj) := erj
    rw [erj] 
    clear erj
    have HLe := hL
    have HL : Hid (L = (n + 7) / 8) := hL
    have hL2 : L ≤ 2 := by omega
    clear hL HLe
    go_enter Yba.func12, Yba.ntmps12
    go_wp2
    clear cN cT cW cA
    go_loopg [3, 10] (hi + 1 - lo) (fun gg ds kv wr => gg = hi + 1 - (intOf kv).toNat ∧ DRel B w n s j b hm rj lo hi l0 ds kv wr)
    case atStart => exact ⟨by simp [intOf], 0, .inl rfl, rfl, ⟨g, cap, rfl, hg, HO.out⟩, Below.refl _ _⟩
    case round =>
      obtain ⟨hgk, c, hc, rfl, hO, hW⟩ := hrel
      obtain ⟨l, el⟩ : ∃ l, outL n s j b hm rj lo l0 c = l := ⟨_, rfl⟩
      have HEl : Hid (outL n s j b hm rj lo l0 c = l) := el
      have hlen := outL_len n s j b hm rj lo l0 c
      rw [el] at hO hlen
      clear el
      obtain ⟨k, ek⟩ : ∃ k, lo + c = k := ⟨_, rfl⟩
      have HK : Hid (lo + c = k) := ek
      rw [ek] at hc hgk ⊢
      have hPr := HP.out.below hW
      have HPr : Hid (PW B wr p hb rb wb n t s j a L hm rm) := hPr
      have HW : Hid (Below B w wr) := hW
      have HOr : Hid (Own wr B u3 l) := hO
      have cN := hPr.cN
      have cH := hPr.cH
      have cR := hPr.cR
      by_cases hkh : k ≤ hi
      · have hk1 : 1 ≤ k := by omega
        have hkn : k ≤ n := by omega
        have hc16 : c ≤ 16 := by omega
        clear ek
        obtain ⟨gh, ch, sh, hgh⟩ := hPr.H (k - 1) (by omega)
        obtain ⟨gr, cr, sr, hgr⟩ := hPr.R (j - 1) (by omega)
        rw [HRj.out] at sr
        obtain ⟨hk, ehk⟩ : ∃ hk, hm (k - 1) = hk := ⟨_, rfl⟩
        rw [ehk] at sh
        have HHk : Hid (hm (k - 1) = hk) := ehk
        have hhk : hk < 2 ^ n := by rw [← ehk]; exact HMM.out _
        have hrj : rj < 2 ^ n := by rw [← HRj.out]; exact HRR.out _
        clear ehk
        have HHas : Hid (∀ q, Calls Yba.prog 16 #[.slice (some ⟨gh, 0, none⟩) L L, .int .i64 j] (wr.drewN q) fun e w' => e = .returned (.bool (hk.testBit (j - 1))) ∧ ∃ q', w' = (wr.drewN q).drewN q') := fun q => has_any gh L hk j L _ hj1 (by omega) (by have := HL.out; omega) hL2 sh
        have HSt : Hid (outL n s j b hm rj lo l0 (c + 1) = stepL n s j b hm rj k l) := by show _ = _; simp only [outL]; rw [HEl.out, HK.out]
        have hnum : (.int .i64 ((k : Int) + 1) : Value) = .int .i64 (lo + (c + 1) : Nat) := by
          rw [show lo + (c + 1) = k + 1 from by have := HK.out; omega]; go_num
        have HNum : Hid ((.int .i64 ((k : Int) + 1) : Value) = .int .i64 (lo + (c + 1) : Nat)) := hnum
        have HLe : Hid (lo + (c + 1) ≤ hi + 1) := by show _ ≤ _; have := HK.out; omega
        clear hPr hW hO hnum
        cases hbit : hk.testBit (j - 1)
        · rw [hbit] at HHas
          have HBit : Hid (hk.testBit (j - 1) = false) := hbit
          clear hbit
          obtain ⟨g', cap', rfl, hg', ho⟩ := HOr.out
          have HO' : Hid (wr.ownsRow B 57 2 (.slice (some ⟨g', 0, none⟩) l.length cap') l.length (cellsD l)) := ho
          clear ho
          obtain ⟨r, er⟩ : ∃ r, popTo (hk &&& rj) n = r := ⟨_, rfl⟩
          have HEr : Hid (popTo (hk &&& rj) n = r) := er
          have hr16 : r ≤ 16 := by rw [← er]; have := popTo_le (hk &&& rj) n; omega
          have hand : hk &&& rj < 2 ^ n := Nat.lt_of_le_of_lt Nat.and_le_left hhk
          have hp8 : popTo (hk &&& rj) (8 * L) = r := by rw [popTo_ext hand (8 * L) (by have := HL.out; omega)]; exact er
          have HHkk : Hid (hk < 2 ^ n) := hhk
          clear er hand hhk hrj
          go_wp2_with fail
          refine (HHas.out 0).mono ?_
          rintro e w1 ⟨rfl, q, ew⟩
          have ew' : w1 = wr.drewN q := by rw [ew]; simp
          clear ew
          have HW1 : Hid (Below B w w1) := by show Below _ _ _; rw [ew']; exact HW.out.trans (below_drewN _ _ _)
          have HO1 : Hid (Own w1 B (.slice (some ⟨g', 0, none⟩) l.length cap') l) := by show Own _ _ _ _; rw [ew']; exact HOr.out.below (below_drewN _ _ _)
          have HD1 : Hid (DV w1 p hb rb gh gr g' n s j k L hk rj l) := by
            have h5 := HPr.out.p5
            have h1 := HPr.out.p1
            have h2 := HPr.out.p2
            have h3 := HPr.out.p3
            show DV _ _ _ _ _ _ _ _ _ _ _ _ _ _ _
            rw [ew']
            exact DV.below ⟨HPr.out.cS, cH, cR, ch, cr, sh, sr, dsAt_of HO'.out, by omega, by omega, by omega, by omega, by omega, hg'⟩ (below_drewN _ _ _)
          clear HHas HOr HO' HPr HW ew' cN cH cR ch cr sh sr hg'
          have cH := HD1.out.cH
          have cR := HD1.out.cR
          have ch := HD1.out.ch
          have cr := HD1.out.cr
          have HCm : Hid (∀ q, Calls Yba.prog 21 #[.slice (some ⟨gh, 0, none⟩) L L, .slice (some ⟨gr, 0, none⟩) L L] (w1.drewN q) fun e w' => e = .returned (.int .i64 r) ∧ ∃ q', w' = (w1.drewN q).drewN q') := fun q => by
            have := common_any gh gr L hk rj L L (w1.drewN q) hL2 HD1.out.sh HD1.out.sr
            rw [hp8] at this
            exact this
          clear hp8
          go_wp2
          go_quiet (exact Calls.quiet_of (HCm.out _))
          rename_i nq
          by_cases hr1 : (r : Int) < (b : Int) - k - 1
          · have hd1 : decide ((r : Int) < (b : Int) - k - 1) = true := by simp [hr1]
            have HSt' : Hid (outL n s j b hm rj lo l0 (c + 1) = l) := by show _ = _; rw [HSt.out]; unfold stepL; rw [HHk.out, HBit.out, if_neg Bool.false_ne_true, HEr.out, if_pos (.inl hr1)]
            clear hr1
            go_wp2
            go_roundg (hi + 1 - (k + 1))
            case measure => simp [intOf] at hgk; omega
            case rel => exact ⟨by simp [intOf], c + 1, .inr HLe.out, HNum.out, by rw [HSt'.out]; exact HO1.out.below (below_drewN _ _ _), HW1.out.trans (below_drewN _ _ _)⟩
          · have hd1 : decide ((r : Int) < (b : Int) - k - 1) = false := by simp; omega
            by_cases hr2 : (b : Int) - k < (r : Int)
            · have hd2 : decide ((b : Int) - k < (r : Int)) = true := by simp [hr2]
              have HSt' : Hid (outL n s j b hm rj lo l0 (c + 1) = l) := by show _ = _; rw [HSt.out]; unfold stepL; rw [HHk.out, HBit.out, if_neg Bool.false_ne_true, HEr.out, if_pos (.inr hr2)]
              clear hr1 hr2
              go_wp2
              go_roundg (hi + 1 - (k + 1))
              case measure => simp [intOf] at hgk; omega
              case rel => exact ⟨by simp [intOf], c + 1, .inr HLe.out, HNum.out, by rw [HSt'.out]; exact HO1.out.below (below_drewN _ _ _), HW1.out.trans (below_drewN _ _ _)⟩
            · have hd2 : decide ((b : Int) - k < (r : Int)) = false := by simp; omega
              obtain ⟨f, ef⟩ : ∃ f, pick n hk rj s l j k = f := ⟨_, rfl⟩
              have HStep : Hid (outL n s j b hm rj lo l0 (c + 1) = if f = 0 then l else l ++ [(k, f)]) := by
                show _ = _
                rw [HSt.out]; unfold stepL
                rw [HHk.out, HBit.out, if_neg Bool.false_ne_true, HEr.out, if_neg (by omega), ef]
              have hf16 : f ≤ 16 := by rw [← ef]; have := pickTo_le (key l j k) (cand hk rj s) n; show pickTo _ _ _ ≤ 16; omega
              have HDes : Hid (∀ q, Calls Yba.prog 22 #[.pointer (some ⟨p, 0, none⟩), .int .i64 j, .int .i64 k, .slice (some ⟨g', 0, none⟩) l.length cap'] (w1.drewN q) fun e w' => e = .returned (.int .i64 f) ∧ Below (w1.drewN q).heap.size (w1.drewN q) w') := fun q => by
                have h := designee_any p hb rb gh gr g' cap' n s j k L hk rj l (w1.drewN q) hn HL.out HHkk.out hj1 hj2 hk1 hkn hs (by omega) (HD1.out.below (below_drewN _ _ _))
                rw [ef] at h
                exact h
              clear hr1 hr2 ef
              go_wp2_with fail
              refine (HDes.out _).mono ?_
              rintro e w2 ⟨rfl, hb2⟩
              have HO2 : Hid (Own w2 B (.slice (some ⟨g', 0, none⟩) l.length cap') l) := (HO1.out.below (below_drewN _ _ _)).below hb2
              have HW2 : Hid (Below B w w2) := (HW1.out.trans (below_drewN _ _ _)).trans (hb2.mono (by have h := HW1.out.size; have h2 := HP.out.p5; simp; omega))
              have hB2 : B ≤ w2.heap.size := Nat.le_trans HP.out.p5 HW2.out.size
              clear hb2 HO1 HW1 HDes HD1 HCm
              by_cases hf0 : f = 0
              · have hfb : ((f : Int) != 0) = false := by simp [hf0]
                have HSt' : Hid (outL n s j b hm rj lo l0 (c + 1) = l) := by show _ = _; rw [HStep.out, if_pos hf0]
                clear hf0
                go_wp2
                go_roundg (hi + 1 - (k + 1))
                case measure => simp [intOf] at hgk; omega
                case rel => exact ⟨by simp [intOf], c + 1, .inr HLe.out, HNum.out, by rw [HSt'.out]; exact HO2.out, HW2.out⟩
              · have hfb : ((f : Int) != 0) = true := by simp [hf0]
                have HSt' : Hid (outL n s j b hm rj lo l0 (c + 1) = l ++ [(k, f)]) := by show _ = _; rw [HStep.out, if_neg hf0]
                clear hf0
                obtain ⟨g2, cap2, ev, hg2, ho⟩ := HO2.out
                rw [← ev] at ho
                have HOw : Hid (w2.ownsRow B 57 2 (.slice (some ⟨g', 0, none⟩) l.length cap') l.length (cellsD l)) := ho
                have hgB : B ≤ g' := (ho.lt g' rfl).1
                clear ev hg2 ho
                obtain ⟨hi57, hz57, hs57, hb57⟩ := HIn.out
                have hlm : l.length + 1 ≤ maxLen := by unfold maxLen; omega
                go_wp2_with (first
                  | (at_builtin; refine wpList_append_own _ rfl _ _ 53 rfl B 57 i57 (.agg #[.int .i64 0, .int .i64 0]) 2 16 Yba.underlying53 hi57 hz57 hs57 hb57 rfl (by decide) _ _ _ rfl (HOw.out.alloc _) ⟨w2.heap.size, 0, none⟩ 1 1 [.int .i64 k, .int .i64 f] rfl rfl ?c1 ?c2 ?c3 ?c4 ?c5 ?_)
                  | go_in)
                case c1 =>
                  intro jj u hj
                  match jj, hj with
                  | 0, hj => simp at hj; subst hj; simp [Addr.add]
                  | 1, hj => simp at hj; subst hj; simp [Addr.add]
                case c2 => intro u hu; simp at hu; rcases hu with rfl | rfl <;> rfl
                case c3 => exact hlm
                case c4 => omega
                case c5 => simp; omega
                · intro v' w3 hown' hgrow _
                  have HN : Hid (Own w3 B v' (l ++ [(k, f)])) := own_appended hown'
                  have HW3 : Hid (Below B w w3) := (HW2.out.alloc hB2 _).grown hgrow (by simp; omega) (fun x hx => by cases hx; exact hgB)
                  clear hown' hgrow
                  go_wp2
                  go_roundg (hi + 1 - (k + 1))
                  case measure => simp [intOf] at hgk; omega
                  case rel => exact ⟨by simp [intOf], c + 1, .inr HLe.out, HNum.out, by rw [HSt'.out]; exact HN.out, HW3.out⟩
        · have HSt' : Hid (outL n s j b hm rj lo l0 (c + 1) = l) := by show _ = _; rw [HSt.out]; simp [stepL, HHk.out, hbit]
          rw [hbit] at HHas
          clear hbit
          go_wp2_with fail
          refine (HHas.out 0).mono ?_
          rintro e w' ⟨rfl, q, rfl⟩
          go_wp2
          go_roundg (hi + 1 - (k + 1))
          case measure => simp [intOf] at hgk; omega
          case rel => exact ⟨by simp [intOf], c + 1, .inr HLe.out, HNum.out, by rw [HSt'.out]; exact HOr.out.below (below_drewN _ _ _), HW.out.trans (below_drewN _ _ _)⟩
      · have HF : Hid (outL n s j b hm rj lo l0 (hi + 1 - lo) = l) := by
          show _ = _
          rw [show hi + 1 - lo = c from by omega]; exact HEl.out
        clear ek hPr hW hO
        go_wp2
        go_ret
        exact ⟨_, rfl, by rw [HF.out]; exact HOr.out, HW.out⟩
end Go.Proofs.Ybulkhjc.Bx
