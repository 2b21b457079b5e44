import Derived.Test.YbulkhjcBxD
namespace Go.Proofs.Ybulkhjc.Bx
open Go.RowKit

/-- the law's first loop -/
def LRel1 (B : Nat) (w2 : World) (px py : Nat → Nat) (pl : Nat) (i : Value) (wr : World) : Prop :=
  ∃ k : Nat, k ≤ pl ∧ i = .int .i64 k ∧ wr.rowIs B 57 (pl * 2) (preV px py k) ∧ Below B w2 wr

set_option maxRecDepth 100000 in
set_option maxHeartbeats 4000000 in
theorem law_walk (nr tr sr jr br : Nat) (hnr : nr < 256) (htr : tr < 256) (hsr : sr < 256) (hjr : jr < 256) (hbr : br < 256)
    (ha : Option Addr) (hl hc : Nat) (hz : Nat → Nat) (ra : Option Addr) (rl rc : Nat) (rz : Nat → Nat) (wa : Option Addr) (wl wcap : Nat) (wz : Nat → Nat)
    (pa : Option Addr) (pl pc pb po : Nat) (px py : Nat → Nat) (w : World) (hpl : pl ≤ 1024) (hH : Row16 w ha hl hz) (hR : Row16 w ra rl rz) (hWt : Row8 w wa wl wz)
    (hpb : 0 < pl → pb < w.heap.size)
    (hix : ∀ i, i < pl → ∀ w', (Instr.indexAt 49 (.slice pa pl pc) (.int .i64 (i : Int))).run Yba.prog w' = .ok (.pointer (some ⟨pb, po + i * 2, none⟩)) w')
    (hp : ∀ i, i < pl → w.cell? ⟨pb, po + i * 2, none⟩ = some (.int .u8 (px i)) ∧ w.cell? ⟨pb, po + i * 2 + 1, none⟩ = some (.int .u8 (py i))) (hx : ∀ i, px i < 256) (hy : ∀ i, py i < 256) :
    Calls Yba.prog 5 #[.int .u8 nr, .int .u8 tr, .int .u8 sr, .int .u8 jr, .int .u8 br, .slice ha hl hc, .slice ra rl rc, .slice wa wl wcap, .slice pa pl pc] w fun e w' => e = .returned (.bool true) ∧ Below w.heap.size w w' := by
  have HH : Hid (Row16 w ha hl hz) := hH
  have HRr : Hid (Row16 w ra rl rz) := hR
  have HWt : Hid (Row8 w wa wl wz) := hWt
  have HPb : Hid (0 < pl → pb < w.heap.size) := hpb
  have HIx : Hid (∀ i, i < pl → ∀ w', (Instr.indexAt 49 (.slice pa pl pc) (.int .i64 (i : Int))).run Yba.prog w' = .ok (.pointer (some ⟨pb, po + i * 2, none⟩)) w') := hix
  have HPc : Hid (∀ i, i < pl → w.cell? ⟨pb, po + i * 2, none⟩ = some (.int .u8 (px i)) ∧ w.cell? ⟨pb, po + i * 2 + 1, none⟩ = some (.int .u8 (py i))) := hp
  have HX : Hid ((∀ i, px i < 256) ∧ ∀ i, py i < 256) := ⟨hx, hy⟩
  clear hH hR hWt hpb hix hp hx hy
  obtain ⟨n0, en0⟩ : ∃ n0, nr % 16 = n0 := ⟨_, rfl⟩
  obtain ⟨n, en⟩ : ∃ n, n0 + 1 = n := ⟨_, rfl⟩
  have hn16 : n ≤ 16 := by omega
  have hn1 : 1 ≤ n := by omega
  have q1 : (nr : Int) % 16 = (n0 : Int) := by omega
  have q2 : 1 + (n0 : Int) = (n : Int) := by omega
  obtain ⟨t, et⟩ : ∃ t, tr % n = t := ⟨_, rfl⟩
  have htn : t < n := by rw [← et]; exact Nat.mod_lt _ (by omega)
  have q3 : (tr : Int) % (n : Int) = (t : Int) := by rw [← et]; rfl
  obtain ⟨s0, es0⟩ : ∃ s0, sr % n = s0 := ⟨_, rfl⟩
  have hs0 : s0 < n := by rw [← es0]; exact Nat.mod_lt _ (by omega)
  obtain ⟨s, es⟩ : ∃ s, s0 + 1 = s := ⟨_, rfl⟩
  have q4 : (sr : Int) % (n : Int) = (s0 : Int) := by rw [← es0]; rfl
  have q5 : 1 + (s0 : Int) = (s : Int) := by omega
  obtain ⟨j0, ej0⟩ : ∃ j0, jr % n = j0 := ⟨_, rfl⟩
  have hj0 : j0 < n := by rw [← ej0]; exact Nat.mod_lt _ (by omega)
  obtain ⟨j, ej⟩ : ∃ j, j0 + 1 = j := ⟨_, rfl⟩
  have q6 : (jr : Int) % (n : Int) = (j0 : Int) := by rw [← ej0]; rfl
  have q7 : 1 + (j0 : Int) = (j : Int) := by omega
  obtain ⟨b, eb⟩ : ∃ b, br % 48 = b := ⟨_, rfl⟩
  have q8 : (br : Int) % 48 = (b : Int) := by omega
  have hb48 : b < 48 := by omega
  have hs1 : 1 ≤ s := by omega
  have hsn : s ≤ n := by omega
  have hj1 : 1 ≤ j := by omega
  have hjn : j ≤ n := by omega
  have hmk := run_make53 pl hpl
  clear en0 en et es0 es ej0 ej eb
  go_enter Yba.func5, Yba.ntmps5
  go_wp2_with fail
  rw [q3]
  refine (wanted_any n wa wl wcap wz hn16 _ HWt.out).mono ?_
  rintro e w1 ⟨rfl, hr1, hb1⟩
  have HR1 : Hid (w1.rowIs w.heap.size 3 n (WantV wz wl n n)) := hr1
  have HB1 : Hid (Below w.heap.size w w1) := hb1
  clear hr1 hb1
  clear q1 q2 q3 q4 q5 q6 q7 q8 hnr htr hsr hjr hbr
  go_wp2_with fail
  refine (party_any n t s ha ra hl hc rl rc hz rz w.heap.size hn16 _ (HH.out.below (Nat.le_refl _) HB1.out) (HRr.out.below (Nat.le_refl _) HB1.out)).mono ?_
  rintro e w2 ⟨hb, rb, rfl, hI⟩
  have HI : Hid (PInv w1.heap.size n t s w.heap.size ((n + 7) / 8) (mk hz hl n) (mk rz rl n) w1 n n hb rb w2) := hI
  clear hI
  have HB2 : Hid (Below w.heap.size w w2) := HB1.out.trans (HI.out.below.mono HB1.out.size)
  obtain ⟨a, ea⟩ : ∃ a, wv wz wl n (j - 1) = a := ⟨_, rfl⟩
  have han : a ≤ n := by rw [← ea]; exact wv_le _ _ _ _
  have HPW : Hid (PW w2.heap.size w2 (w1.heap.size + 2) hb rb w.heap.size n t s j a ((n + 7) / 8) (mk hz hl n) (mk rz rl n)) := by
    have hlt := HR1.out.lt
    refine pw_of HI.out ?_ (Nat.lt_of_lt_of_le hlt HI.out.below.size)
    rw [HI.out.below.cell (p := ⟨w.heap.size, j - 1, none⟩) hlt, HR1.out.cell (show j - 1 < n by omega)]
    simp only [WantV]
    rw [if_pos (by omega), ea]
  clear ea
  obtain ⟨B, eB⟩ : ∃ B, w2.heap.size = B := ⟨_, rfl⟩
  have HEB : Hid (w2.heap.size = B) := eB
  have hwB : w.heap.size ≤ B := by rw [← eB]; exact HB2.out.size
  have HPW : Hid (PW B w2 (w1.heap.size + 2) hb rb w.heap.size n t s j a ((n + 7) / 8) (mk hz hl n) (mk rz rl n)) := by
    have := HPW.out
    rw [eB] at this
    exact this
  clear eB
  go_wp2
  rw [HEB.out]
  have HRow0 : Hid ((w2.alloc (Obj.cells (madeCells #[Value.int IntKind.i64 0, Value.int IntKind.i64 0] (pl * 2)) 57)).rowIs B 57 (pl * 2) (preV px py 0)) := by
    have := made_row w2 pl px py
    rw [HEB.out] at this
    exact this
  have HBel0 : Hid (Below B w2 (w2.alloc (Obj.cells (madeCells #[Value.int IntKind.i64 0, Value.int IntKind.i64 0] (pl * 2)) 57))) := (Below.refl _ _).alloc (Nat.le_of_eq HEB.out.symm) _
  clear hmk
  go_loopg [84] pl (fun gg i wr => gg = pl - (intOf i).toNat ∧ LRel1 B w2 px py pl i wr)
  case atStart => exact ⟨rfl, 0, by omega, rfl, HRow0.out, HBel0.out⟩
  case round =>
    clear HRow0 HBel0
    obtain ⟨hg, k, hk, rfl, hr, hbl⟩ := hrel
    have HRow : Hid (wr.rowIs B 57 (pl * 2) (preV px py k)) := hr
    have HBel : Hid (Below B w2 wr) := hbl
    clear hr hbl
    by_cases hkp : k < pl
    · have hixk := HIx.out k hkp
      obtain ⟨c1, c2⟩ := HPc.out k hkp
      have hpbw := HPb.out (by omega)
      have hbw : Below w.heap.size w wr := HB2.out.trans (HBel.out.mono hwB)
      have d1 : wr.cell? ⟨pb, po + k * 2, none⟩ = some (.int .u8 (px k)) := (hbw.cell (p := ⟨pb, po + k * 2, none⟩) hpbw).trans c1
      have d2 : wr.cell? ⟨pb, po + k * 2 + 1, none⟩ = some (.int .u8 (py k)) := (hbw.cell (p := ⟨pb, po + k * 2 + 1, none⟩) hpbw).trans c2
      have f1 := HRow.out.frozen (k * 2)
      have f2 := HRow.out.frozen (k * 2 + 1)
      have g1 := HRow.out.cell (i := k * 2) (by omega)
      have g2 := HRow.out.cell (i := k * 2 + 1) (by omega)
      have hx1 := HX.out.1 k
      have hy1 := HX.out.2 k
      clear c1 c2 hbw
      go_wp2
      go_region
      go_wp2
      go_roundg (pl - (k + 1))
      case measure => simp [intOf] at hg; omega
      case rel =>
        refine ⟨by simp [intOf], k + 1, by omega, by go_num, ?_, ((HBel.out.setCell (p := ⟨B, k * 2, none⟩) (Nat.le_refl _) _).setCell (p := ⟨B, k * 2 + 1, none⟩) (Nat.le_refl _) _).drew⟩
        exact (pre_step HRow.out).drew
    · obtain rfl : k = pl := by omega
      have HOw : Hid (wr.ownsRow B 57 2 (.slice (some ⟨B, 0, none⟩) (preL px py k).length k) (preL px py k).length (cellsD (preL px py k))) := own_of_row hpl HRow.out
      have hlt := HRow.out.lt
      obtain ⟨hm, ehm⟩ : ∃ hm, mk hz hl n = hm := ⟨_, rfl⟩
      obtain ⟨rm, erm⟩ : ∃ rm, mk rz rl n = rm := ⟨_, rfl⟩
      have HHm : Hid (mk hz hl n = hm) := ehm
      have HRm : Hid (mk rz rl n = rm) := erm
      obtain ⟨out, eout⟩ : ∃ out, res n t s j b a hm (rm (j - 1)) (preL px py k) = out := ⟨_, rfl⟩
      have HOut : Hid (res n t s j b a hm (rm (j - 1)) (preL px py k) = out) := eout
      have HDes : Hid (Calls Yba.prog 12 #[.pointer (some ⟨w1.heap.size + 2, 0, none⟩), .int .i64 b, .int .i64 j, .slice (some ⟨B, 0, none⟩) k k] wr (DPost B wr out)) := by
        have h := designate_any B (w1.heap.size + 2) hb rb w.heap.size n t s j a b ((n + 7) / 8) (mk hz hl n) (mk rz rl n) (preL px py k) B k wr hn16 rfl hj1 hjn (by omega) (by omega) han (by omega) (mk_lt _ _ _) (mk_lt _ _ _) (by rw [preL_len]; exact hpl) hlt (HPW.out.below HBel.out) HOw.out
        rw [ehm, erm, eout, preL_len] at h
        exact h
      clear ehm erm eout hlt
      go_wp2_with fail
      refine HDes.out.mono ?_
      rintro e w4 ⟨v, rfl, ⟨g4, cap4, rfl, hg4, ho4⟩, hb4⟩
      have HW4 : Hid (Below w.heap.size w w4) := (HB2.out.trans (HBel.out.mono hwB)).trans (hb4.mono hwB)
      have HA4 : Hid (w4.cell? ⟨w.heap.size, j - 1, none⟩ = some (.int .i64 a)) := ((HPW.out.below HBel.out).below hb4).cA
      have HDs : Hid (DsAt w4 g4 out) := dsAt_of ho4
      clear hb4 ho4 hg4 HDes HOw HRow HBel HPW HI HR1 HB1 HB2
      obtain ⟨ou, eou⟩ := res_pre n t s j b a hm (rm (j - 1)) (preL px py k)
      rw [HOut.out] at eou
      have hkol : k ≤ out.length := by rw [eou, List.length_append, preL_len]; omega
      have HPreG : Hid (∀ i, ∀ h : i < k, out[i]'(by omega) = (px i, py i % 17)) := fun i h => by
        simp only [eou]
        rw [List.getElem_append_left (by rw [preL_len]; exact h), preL_get]
      clear eou
      have hol : out.length ≤ 1072 := by
        rw [← HOut.out]; unfold res
        split
        · rw [preL_len]; omega
        · have := outL_len n s j b hm (rm (j - 1)) (max a (b - t)) (preL px py k) (min b n + 1 - max a (b - t))
          rw [preL_len] at this; omega
      obtain ⟨ol, eol⟩ : ∃ ol, out.length = ol := ⟨_, rfl⟩
      have HOl : Hid (out.length = ol) := eol
      rw [eol] at hkol hol ⊢
      clear eol
      go_wp2
      go_loopg [117] k (fun gg i wr => gg = k - (intOf i).toNat ∧ ∃ x q : Nat, x ≤ k ∧ i = .int .i64 x ∧ wr = w4.drewN q)
      case atStart => exact ⟨rfl, 0, 0, by omega, rfl, rfl⟩
      case round =>
        obtain ⟨hg2, x, q, hx, rfl, hw5⟩ := hrel
        have HW5 : Hid (wr = w4.drewN q) := hw5
        by_cases hxk : x < k
        · have hixk := HIx.out x hxk
          obtain ⟨c1, c2⟩ := HPc.out x hxk
          have hpbw := HPb.out (by omega)
          have hbw : Below w.heap.size w wr := by rw [hw5]; exact HW4.out.trans (below_drewN _ _ _)
          have d1 : wr.cell? ⟨pb, po + x * 2, none⟩ = some (.int .u8 (px x)) := (hbw.cell (p := ⟨pb, po + x * 2, none⟩) hpbw).trans c1
          have d2 : wr.cell? ⟨pb, po + x * 2 + 1, none⟩ = some (.int .u8 (py x)) := (hbw.cell (p := ⟨pb, po + x * 2 + 1, none⟩) hpbw).trans c2
          obtain ⟨e1, e2⟩ := HDs.out x (by rw [HOl.out]; omega)
          rw [HPreG.out x hxk] at e1 e2
          have g1 : wr.cell? ⟨g4, x * 2, none⟩ = some (.int .i64 (px x)) := by rw [hw5]; exact e1
          have g2 : wr.cell? ⟨g4, x * 2 + 1, none⟩ = some (.int .i64 ((py x : Int) % 17)) := by rw [hw5]; exact e2
          have hx1 := HX.out.1 x
          have hy1 := HX.out.2 x
          clear c1 c2 hbw hw5 e1 e2
          go_wp2
          go_quiet (fail)
          go_wp2
          go_roundg (k - (x + 1))
          case measure => simp [intOf] at hg2; omega
          case rel => exact ⟨by simp [intOf], x + 1, _, by omega, by go_num, by rw [HW5.out, World.drewN_drewN]⟩
        · obtain rfl : x = k := by omega
          clear hg2 hg
          have cA : wr.cell? ⟨w.heap.size, j - 1, none⟩ = some (.int .i64 a) := by rw [hw5]; exact HA4.out
          have HDs5 : Hid (DsAt wr g4 out) := by show DsAt _ _ _; rw [hw5]; exact HDs.out
          have HWf : Hid (Below w.heap.size w wr) := by show Below _ _ _; rw [hw5]; exact HW4.out.trans (below_drewN _ _ _)
          clear hw5 HW5 HDs HW4 HA4
          by_cases ha0 : a = 0
          · have hab : ((a : Int) != 0) = false := by simp [ha0]
            have hxo : x = ol := by
              have h := HOut.out
              rw [res, if_pos ha0] at h
              have h2 := HOl.out
              rw [← h, preL_len] at h2
              exact h2
            have hfin : ((x : Int) == (ol : Int)) = true := by simp [hxo]
            clear ha0 hxo
            go_wp2
            go_ret
            exact ⟨by first | rfl | simp_all, HWf.out⟩
          · have hab : ((a : Int) != 0) = true := by simp [ha0]
            obtain ⟨rj, erj⟩ : ∃ rj, rm (j - 1) = rj := ⟨_, rfl⟩
            have hrj2 : rj < 2 ^ n := by rw [← erj, ← HRm.out]; exact mk_lt _ _ _ _
            have hRj : mk rz rl n (j - 1) = rj := by rw [HRm.out]; exact erj
            have hRes : out = res n t s j b a hm rj (preL px py x) := by rw [← erj]; exact HOut.out.symm
            have HAll : Hid (a ≠ 0 ∧ rj < 2 ^ n ∧ mk rz rl n (j - 1) = rj ∧ out = res n t s j b a hm rj (preL px py x) ∧ Row16 wr ha hl hz ∧ Row16 wr ra rl rz) := ⟨ha0, hrj2, hRj, hRes, HH.out.below (Nat.le_refl _) HWf.out, HRr.out.below (Nat.le_refl _) HWf.out⟩
            clear erj hrj2 hRj hRes ha0 HOut HX HPc HIx HPb HWt HPreG
            go_upto_if 156 with fail
            obtain ⟨ha0, hrj2, hRj, hRes, hrh, hrr⟩ := HAll.out
            refine if_wanted n t s j b a x ol g4 cap4 rj ha hl hc hz hm ra rl rc rz (preL px py x) out _ _ hn16 hb48 hj1 hjn htn han ha0 hrj2 HHm.out hRj (preL_len px py x) HOl.out hol hRes hrh hrr HDs5.out ?_
            clear ha0 hrj2 hRj hRes hrh hrr HAll
            intros
            go_wp2
            go_ret
            exact ⟨by first | rfl | simp, HWf.out⟩
end Go.Proofs.Ybulkhjc.Bx
