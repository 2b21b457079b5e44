import Derived.Test.YbulkhjcBx5
import Derived.Test.YbulkhjcBx6
namespace Go.Proofs.Ybulkhjc.Bx
open Go.RowKit

theorem not_fin : ∀ b : Fin 256, ∀ s : Fin 8, (255 - b.val).testBit s.val = !b.val.testBit s.val := by decide +kernel
theorem byte_not (a b s : Nat) (hb : b < 256) (hs : s < 8) : (a &&& (255 - b)).testBit s = (a.testBit s && !b.testBit s) := by
  rw [Nat.testBit_and, not_fin ⟨b, hb⟩ ⟨s, hs⟩]
theorem low_fin : ∀ x : Fin 256, x.val ≠ 0 → Lib.trailingZeros8 x.val < 8 ∧ x.val.testBit (Lib.trailingZeros8 x.val) = true ∧ (x.val &&& (255 - 2 ^ Lib.trailingZeros8 x.val)) < x.val ∧ ∀ s : Fin 8, (x.val &&& (255 - 2 ^ Lib.trailingZeros8 x.val)).testBit s.val = (x.val.testBit s.val && (s.val != Lib.trailingZeros8 x.val)) := by decide +kernel

theorem pow_fin : ∀ z : Fin 8, ((2 : Int) ^ z.val % 256) = ((2 ^ z.val : Nat) : Int) := by decide +kernel
theorem pow_lt : ∀ z : Fin 8, 2 ^ z.val < 256 := by decide +kernel

/-- the designations l lie at the head of block g -/
def DsAt (w : World) (g : Nat) (l : List (Nat × Nat)) : Prop :=
  ∀ i (h : i < l.length), w.cell? ⟨g, i * 2, none⟩ = some (.int .i64 (l[i]).1) ∧ w.cell? ⟨g, i * 2 + 1, none⟩ = some (.int .i64 (l[i]).2)

structure DV (w : World) (p hb rb gh gr g n s j k L hk rj : Nat) (l : List (Nat × Nat)) : Prop where
  cS : w.cell? ⟨p, 2, none⟩ = some (.int .i64 s)
  cH : w.cell? ⟨p, 8, none⟩ = some (.slice (some ⟨hb, 0, none⟩) n n)
  cR : w.cell? ⟨p, 16, none⟩ = some (.slice (some ⟨rb, 0, none⟩) n n)
  ch : w.cell? ⟨hb, k - 1, none⟩ = some (.slice (some ⟨gh, 0, none⟩) L L)
  cr : w.cell? ⟨rb, j - 1, none⟩ = some (.slice (some ⟨gr, 0, none⟩) L L)
  sh : SetAt w gh L hk
  sr : SetAt w gr L rj
  ds : DsAt w g l
  p1 : p < w.heap.size
  p2 : hb < w.heap.size
  p3 : rb < w.heap.size
  p4 : gh < w.heap.size
  p5 : gr < w.heap.size
  p6 : g < w.heap.size

theorem DV.below {w w' : World} {p hb rb gh gr g n s j k L hk rj : Nat} {l : List (Nat × Nat)} (h : DV w p hb rb gh gr g n s j k L hk rj l) (b : Below w.heap.size w w') : DV w' p hb rb gh gr g n s j k L hk rj l := by
  have hc : ∀ x o v, x < w.heap.size → w.cell? ⟨x, o, none⟩ = some v → w'.cell? ⟨x, o, none⟩ = some v := fun x o v hx e => (b.cell (p := ⟨x, o, none⟩) hx).trans e
  have := b.size
  exact ⟨hc _ _ _ h.p1 h.cS, hc _ _ _ h.p1 h.cH, hc _ _ _ h.p1 h.cR, hc _ _ _ h.p2 h.ch, hc _ _ _ h.p3 h.cr, fun i hi => hc _ _ _ h.p4 (h.sh i hi), fun i hi => hc _ _ _ h.p5 (h.sr i hi), fun i hi => ⟨hc _ _ _ h.p6 (h.ds i hi).1, hc _ _ _ h.p6 (h.ds i hi).2⟩, by have := h.p1; omega, by have := h.p2; omega, by have := h.p3; omega, by have := h.p4; omega, by have := h.p5; omega, by have := h.p6; omega⟩

/-- who has been looked at when x is left of byte i -/
def Dx (hk rj s i x f : Nat) : Prop := 1 ≤ f ∧ f ≤ 8 * i + 8 ∧ cand hk rj s f = true ∧ (f ≤ 8 * i ∨ x.testBit (8 * i + 8 - f) = false)

theorem x0_bit (hk rj i t : Nat) (ht : t < 8) : (sb hk i &&& (255 - sb rj i)).testBit t = (hk.testBit (8 * i + (7 - t)) && !rj.testBit (8 * i + (7 - t))) := by
  rw [byte_not _ _ _ (sb_lt _ _) ht, sb_bit _ _ _ ht, sb_bit _ _ _ ht]
theorem cand_bits {hk rj s f : Nat} (h : cand hk rj s f = true) : hk.testBit (f - 1) = true ∧ rj.testBit (f - 1) = false ∧ f ≠ s := by
  simpa [cand, and_assoc] using h
theorem dx_start (hk rj s i f : Nat) : (1 ≤ f ∧ f ≤ 8 * i ∧ cand hk rj s f = true) ↔ Dx hk rj s i (sb hk i &&& (255 - sb rj i)) f := by
  constructor
  · intro h; exact ⟨h.1, by omega, h.2.2, .inl h.2.1⟩
  · intro h
    refine ⟨h.1, ?_, h.2.2.1⟩
    rcases h.2.2.2 with e | e
    · exact e
    · rcases Nat.lt_or_ge (8 * i) f with hl | hl
      · have h2 := h.2.1
        rw [x0_bit _ _ _ _ (by omega), show 8 * i + (7 - (8 * i + 8 - f)) = f - 1 from by omega, (cand_bits h.2.2.1).1, (cand_bits h.2.2.1).2.1] at e
        cases e
      · exact hl
theorem dx_sub (hk rj i t : Nat) (ht : t < 8) (h : (sb hk i &&& (255 - sb rj i)).testBit t = true) : hk.testBit (8 * i + (7 - t)) = true ∧ rj.testBit (8 * i + (7 - t)) = false := by
  rw [x0_bit _ _ _ _ ht] at h
  simpa using h
theorem dx_end (hk rj s i f : Nat) : Dx hk rj s i 0 f ↔ (1 ≤ f ∧ f ≤ 8 * (i + 1) ∧ cand hk rj s f = true) := by
  constructor
  · intro h; have := h.2.1; exact ⟨h.1, by omega, h.2.2.1⟩
  · intro h; have := h.2.1; exact ⟨h.1, by omega, h.2.2, .inr (Nat.zero_testBit _)⟩
theorem dx_step (hk rj s i x z y : Nat) (hz : z < 8) (hy : ∀ t, t < 8 → y.testBit t = (x.testBit t && (t != z))) (f : Nat) :
    Dx hk rj s i y f ↔ (Dx hk rj s i x f ∨ (f = 8 * i + 8 - z ∧ cand hk rj s (8 * i + 8 - z) = true)) := by
  constructor
  · intro h
    have h2 := h.2.1
    by_cases e : f = 8 * i + 8 - z
    · exact .inr ⟨e, e ▸ h.2.2.1⟩
    · refine .inl ⟨h.1, h.2.1, h.2.2.1, ?_⟩
      rcases h.2.2.2 with hl | hl
      · exact .inl hl
      · rcases Nat.lt_or_ge (8 * i) f with hf | hf
        · rw [hy _ (by omega)] at hl
          have : ((8 * i + 8 - f) != z) = true := by simp; omega
          rw [this, Bool.and_true] at hl
          exact .inr hl
        · exact .inl hf
  · rintro (h | ⟨rfl, h⟩)
    · refine ⟨h.1, h.2.1, h.2.2.1, ?_⟩
      rcases h.2.2.2 with hl | hl
      · exact .inl hl
      · rcases Nat.lt_or_ge (8 * i) f with hf | hf
        · exact .inr (by rw [hy _ (by omega), hl]; rfl)
        · exact .inl hf
    · refine ⟨by omega, by omega, h, .inr ?_⟩
      rw [show 8 * i + 8 - (8 * i + 8 - z) = z from by omega, hy _ hz]
      simp
theorem bit_le {hk n t : Nat} (hhk : hk < 2 ^ n) (h : hk.testBit t = true) : t < n := by
  rcases Nat.lt_or_ge t n with hl | hl
  · exact hl
  · rw [Nat.testBit_lt_two_pow (Nat.lt_of_lt_of_le hhk (Nat.pow_le_pow_right (by decide) hl))] at h
    cases h

def RelA (w : World) (hk rj s : Nat) (l : List (Nat × Nat)) (j k L : Nat) (best rank ctr : Value) (wr : World) : Prop :=
  ∃ i b r : Nat, i ≤ L ∧ ctr = .int .i64 i ∧ best = .int .i64 b ∧ rank = .int .u64 r ∧ b ≤ 16 ∧ r < 18446744073709551616 ∧ Best (fun f => 1 ≤ f ∧ f ≤ 8 * i ∧ cand hk rj s f = true) (key l j k) b r ∧ Below w.heap.size w wr
def RelB (w : World) (hk rj s i : Nat) (l : List (Nat × Nat)) (j k : Nat) (best rank xv : Value) (wr : World) : Prop :=
  ∃ x b r : Nat, x < 256 ∧ xv = .int .u8 x ∧ (∀ s, s < 8 → x.testBit s = true → hk.testBit (8 * i + (7 - s)) = true ∧ rj.testBit (8 * i + (7 - s)) = false) ∧ best = .int .i64 b ∧ rank = .int .u64 r ∧ b ≤ 16 ∧ r < 18446744073709551616 ∧ Best (Dx hk rj s i x) (key l j k) b r ∧ Below w.heap.size w wr
def RelC (w : World) (f : Nat) (l : List (Nat × Nat)) (j k len : Nat) (rank ctr : Value) (wr : World) : Prop :=
  ∃ q R : Nat, q ≤ len ∧ ctr = .int .i64 q ∧ rank = .int .u64 R ∧ R < (q + 1) * 4294967296 ∧ R = cntD (l.take q) f * 4294967296 + tie f j k ∧ Below w.heap.size w wr

set_option maxRecDepth 100000 in
set_option maxHeartbeats 4000000 in
theorem designee_any (p hb rb gh gr g cap n s j k L hk rj : Nat) (l : List (Nat × Nat)) (w : World) (hn : n ≤ 16) (hL : L = (n + 7) / 8) (hhk : hk < 2 ^ n) (hj1 : 1 ≤ j) (hj2 : j ≤ n) (hk1 : 1 ≤ k) (hk2 : k ≤ n) (_hs : s ≤ 16) (hl : l.length ≤ 2000) (hD : DV w p hb rb gh gr g n s j k L hk rj l) :
    Calls Yba.prog 22 #[.pointer (some ⟨p, 0, none⟩), .int .i64 j, .int .i64 k, .slice (some ⟨g, 0, none⟩) l.length cap] w fun e w' => e = .returned (.int .i64 (pick n hk rj s l j k)) ∧ Below w.heap.size w w' := by
  have HD : Hid (DV w p hb rb gh gr g n s j k L hk rj l) := hD
  have cS := hD.cS
  have cH := hD.cH
  have cR := hD.cR
  have ch := hD.ch
  have cr := hD.cr
  clear hD
  obtain ⟨len, hlen⟩ : ∃ len, l.length = len := ⟨_, rfl⟩
  have HLen : Hid (l.length = len) := hlen
  rw [hlen] at hl ⊢
  clear hlen
  have HL : Hid (L = (n + 7) / 8) := hL
  have hL2 : L ≤ 2 := by omega
  clear hL
  go_enter Yba.func22, Yba.ntmps22
  go_wp2
  go_loopg [9, 10, 28] L (fun gg b r i wr => gg = L - (intOf i).toNat ∧ RelA w hk rj s l j k L b r i wr)
  case atStart => 
    refine ⟨rfl, 0, 0, 0, by omega, rfl, rfl, rfl, by omega, by omega, (Best.empty _).congr fun f => ?_, Below.refl _ _⟩
    constructor
    · exact False.elim
    · intro h; omega
  case round =>
    obtain ⟨hg, i, b, r, hi, rfl, rfl, rfl, hb16, hr64, hB, hW⟩ := hrel
    have HB : Hid (Best (fun f => 1 ≤ f ∧ f ≤ 8 * i ∧ cand hk rj s f = true) (key l j k) b r) := hB
    have HDr : Hid (DV wr p hb rb gh gr g n s j k L hk rj l) := HD.out.below hW
    have HW : Hid (Below w.heap.size w wr) := hW
    clear hB hW cS cH cR ch cr
    have cS := HDr.out.cS
    have cH := HDr.out.cH
    have cR := HDr.out.cR
    have ch := HDr.out.ch
    have cr := HDr.out.cr
    by_cases hiL : i < L
    · have c1 := HDr.out.sh i hiL
      have c2 := HDr.out.sr i hiL
      have hx0 : bits .andNot .u8 (sb hk i : Int) (sb rj i : Int) = ((sb hk i &&& (255 - sb rj i) : Nat) : Int) := u8_andNot_nat _ _ (sb_lt _ _) (sb_lt _ _)
      obtain ⟨x0, ex0⟩ : ∃ x0, sb hk i &&& (255 - sb rj i) = x0 := ⟨_, rfl⟩
      have HX0 : Hid (sb hk i &&& (255 - sb rj i) = x0) := ex0
      rw [ex0] at hx0
      clear ex0
      go_wp2
      go_loopg [9, 10, 13] x0 (fun gg b r x wr => x = .int .u8 gg ∧ RelB w hk rj s i l j k b r x wr)
      case atStart =>
        refine ⟨rfl, x0, b, r, ?_, rfl, ?_, rfl, rfl, hb16, hr64, ?_, HW.out⟩
        · rw [← HX0.out]; exact Nat.lt_of_le_of_lt Nat.and_le_left (sb_lt _ _)
        · intro t ht h; rw [← HX0.out] at h; exact dx_sub hk rj i t ht h
        · rw [← HX0.out]; exact HB.out.congr fun f => dx_start hk rj s i f
      case round =>
        clear HX0 hx0 HDr HW HB hr64 hb16 b r cS cH cR ch cr c1 c2
        obtain ⟨rfl, x, b, r, hx, ex, hsub, rfl, rfl, hb16, hr64, hB, hW⟩ := hrel
        obtain rfl : gk = x := by simp at ex; omega
        clear ex
        have HB : Hid (Best (Dx hk rj s i gk) (key l j k) b r) := hB
        have HSub : Hid (∀ s, s < 8 → gk.testBit s = true → hk.testBit (8 * i + (7 - s)) = true ∧ rj.testBit (8 * i + (7 - s)) = false) := hsub
        have HDr : Hid (DV wr p hb rb gh gr g n s j k L hk rj l) := HD.out.below hW
        have HW : Hid (Below w.heap.size w wr) := hW
        clear hB hW hsub
        have cS := HDr.out.cS
        by_cases hx0 : gk = 0
        · have HX : Hid (gk = 0) := hx0
          have hxb : ((gk : Int) != 0) = false := by simp [hx0]
          clear hx0
          go_wp2
          go_roundg (L - (i + 1))
          case measure => simp [intOf] at hg; omega
          case rel =>
            refine ⟨by simp [intOf], i + 1, b, r, by omega, by go_num, rfl, rfl, hb16, hr64, HB.out.congr fun f => ?_, HW.out⟩
            rw [HX.out]; exact dx_end hk rj s i f
        · obtain ⟨hz8, hzb, hylt, hyb⟩ := low_fin ⟨gk, hx⟩ hx0
          obtain ⟨z, ez⟩ : ∃ z, Lib.trailingZeros8 gk = z := ⟨_, rfl⟩
          simp only [ez] at hz8 hzb hylt hyb
          have hcall : Calls Yba.prog 27 #[.int .u8 gk] wr fun e w' => e = .returned (.int .i64 (z : Nat)) ∧ w' = wr := by
            have h := Yba.bits_TrailingZeros8 (gk : Int) wr (by omega) (by omega)
            rw [show (gk : Int).toNat = gk from by omega, ez] at h
            exact h
          have HC : Hid (Calls Yba.prog 27 #[.int .u8 gk] wr fun e w' => e = .returned (.int .i64 (z : Nat)) ∧ w' = wr) := hcall
          clear hcall ez
          have hxb : ((gk : Int) != 0) = true := by simp [hx0]
          obtain ⟨y, ey⟩ : ∃ y, gk &&& (255 - 2 ^ z) = y := ⟨_, rfl⟩
          rw [ey] at hylt hyb
          have hm := HSub.out z hz8 hzb
          obtain ⟨f0, ef0⟩ : ∃ f0, f0 = 8 * i + 8 - z := ⟨_, rfl⟩
          rw [show 8 * i + (7 - z) = f0 - 1 from by omega] at hm
          have hf0n : f0 ≤ n := by have := bit_le hhk hm.1; omega
          have HY : Hid (∀ f, Dx hk rj s i y f ↔ (Dx hk rj s i gk f ∨ (f = f0 ∧ cand hk rj s f0 = true))) := fun f => by
            rw [ef0]; exact dx_step hk rj s i gk z y hz8 (fun t ht => hyb ⟨t, ht⟩) f
          have HSY : Hid (∀ s, s < 8 → y.testBit s = true → hk.testBit (8 * i + (7 - s)) = true ∧ rj.testBit (8 * i + (7 - s)) = false) := fun t ht h => by
            rw [hyb ⟨t, ht⟩] at h
            simp at h
            exact HSub.out t ht h.1
          have HCand : Hid (cand hk rj s f0 = (f0 != s)) := by show _ = _; simp [cand, hm.1, hm.2]
          have hV : bits .andNot .u8 (gk : Int) (2 ^ z % 256) = (y : Int) := by
            rw [pow_fin ⟨z, hz8⟩, u8_andNot_nat gk (2 ^ z) hx (pow_lt ⟨z, hz8⟩), ey]
          have hfe : 8 * (i : Int) + 8 - (z : Int) = (f0 : Int) := by omega
          have hy256 : y < 256 := by omega
          clear hyb hm hzb ef0 ey
          by_cases hfs : f0 = s
          · have hfb : ((f0 : Int) == s) = true := by simp; omega
            have HC0 : Hid (cand hk rj s f0 = false) := by show _ = _; rw [HCand.out]; simp [hfs]
            clear hfs
            go_wp2_with fail
            refine HC.out.mono ?_
            rintro e w' ⟨rfl, rfl⟩
            go_wp2
            go_roundg y
            case measure => exact hylt
            case rel =>
              refine ⟨rfl, y, b, r, hy256, rfl, HSY.out, rfl, rfl, hb16, hr64, HB.out.congr fun f => ?_, HW.out⟩
              rw [HY.out f, HC0.out]; simp
          · have hfb : ((f0 : Int) == s) = false := by simp; omega
            have HC1 : Hid (cand hk rj s f0 = true) := by show _ = _; rw [HCand.out]; simp [hfs]
            have HT : Hid (∀ w : World, Calls Yba.prog 15 #[.int .i64 f0, .int .i64 j, .int .i64 k] w fun e w' => e = .returned (.int .u32 (tie f0 j k)) ∧ w' = w) := fun w => tie_any f0 j k (by omega) (by omega) (by omega) w
            have htl := tie_lt f0 j k
            have HDy : Hid (∀ f, Dx hk rj s i y f ↔ (Dx hk rj s i gk f ∨ f = f0)) := fun f => by
              rw [HY.out f, HC1.out]; simp
            clear hfs
            go_wp2_with fail
            refine HC.out.mono ?_
            rintro e w' ⟨rfl, rfl⟩
            go_wp2_with fail
            refine (HT.out _).mono ?_
            rintro e w' ⟨rfl, rfl⟩
            go_wp2
            go_loopg [16, 73] len (fun gg rk ctr wr => gg = len - (intOf ctr).toNat ∧ RelC w f0 l j k len rk ctr wr)
            case atStart => exact ⟨rfl, 0, tie f0 j k, by omega, rfl, rfl, by omega, by simp [cntD], HW.out⟩
            case round =>
              clear cS HDr HW
              obtain ⟨hg3, q, R, hq, rfl, rfl, hR64, hR, hW⟩ := hrel
              have HR : Hid (R = cntD (l.take q) f0 * 4294967296 + tie f0 j k) := hR
              have HW : Hid (Below w.heap.size w wr) := hW
              have HDr : Hid (DV wr p hb rb gh gr g n s j k L hk rj l) := HD.out.below hW
              clear hR hW
              by_cases hql : q < len
              · have hq' : q < l.length := by rw [HLen.out]; exact hql
                obtain ⟨c1, c2⟩ := HDr.out.ds q hq'
                have HTk := cntD_take l f0 q hq'
                obtain ⟨d1, ed1⟩ : ∃ d, (l[q]).1 = d := ⟨_, rfl⟩
                obtain ⟨d2, ed2⟩ : ∃ d, (l[q]).2 = d := ⟨_, rfl⟩
                rw [ed1] at c1
                rw [ed2] at c2 HTk
                clear ed1 ed2
                by_cases hd : d2 = f0
                · have hdb : ((d2 : Int) == f0) = true := by simp [hd]
                  have HTk' : Hid (cntD (l.take (q + 1)) f0 = cntD (l.take q) f0 + 1) := by show _ = _; rw [HTk, if_pos hd]
                  clear HTk hd
                  go_wp2
                  go_roundg (len - (q + 1))
                  case measure => simp [intOf] at hg3; omega
                  case rel => exact ⟨by simp [intOf], q + 1, R + 4294967296, by omega, by go_num, by go_num, by omega, by rw [HTk'.out, HR.out]; omega, HW.out.alloc HW.out.size _⟩
                · have hdb : ((d2 : Int) == f0) = false := by simp; omega
                  have HTk' : Hid (cntD (l.take (q + 1)) f0 = cntD (l.take q) f0) := by show _ = _; rw [HTk, if_neg hd]; omega
                  clear HTk hd
                  go_wp2
                  go_roundg (len - (q + 1))
                  case measure => simp [intOf] at hg3; omega
                  case rel => exact ⟨by simp [intOf], q + 1, R, by omega, by go_num, rfl, Nat.lt_of_lt_of_le hR64 (Nat.mul_le_mul_right _ (by omega)), by rw [HTk'.out]; exact HR.out, HW.out.alloc HW.out.size _⟩
              · obtain rfl : q = len := by omega
                have HK : Hid (R = key l j k f0) := by
                  show _ = _
                  have h := HR.out
                  rw [← HLen.out, List.take_length] at h
                  exact h
                by_cases hb0 : b = 0
                · have hbb : ((b : Int) == 0) = true := by simp [hb0]
                  have HB0 : Hid (b = 0) := hb0
                  clear hb0
                  go_wp2
                  go_roundg y
                  case measure => exact hylt
                  case rel =>
                    refine ⟨rfl, y, f0, R, hy256, rfl, HSY.out, rfl, rfl, by omega, by omega, ?_, HW.out⟩
                    rw [HK.out]
                    exact (HB.out.take (by omega) (.inl HB0.out)).congr fun f => (HDy.out f).symm
                · have hbb : ((b : Int) == 0) = false := by simp [hb0]
                  by_cases hlt : R < r
                  · have HLt : Hid (R < r) := hlt
                    have hltb : decide ((R : Int) < r) = true := by simp [hlt]
                    clear hlt
                    go_wp2
                    go_roundg y
                    case measure => exact hylt
                    case rel =>
                      refine ⟨rfl, y, f0, R, hy256, rfl, HSY.out, rfl, rfl, by omega, by omega, ?_, HW.out⟩
                      have h := HLt.out
                      rw [HK.out] at h ⊢
                      exact (HB.out.take (by omega) (.inr h)).congr fun f => (HDy.out f).symm
                  · have HLt : Hid (¬ R < r) := hlt
                    have hltb : decide ((R : Int) < r) = false := by simp; omega
                    clear hlt
                    go_wp2
                    go_roundg y
                    case measure => exact hylt
                    case rel =>
                      refine ⟨rfl, y, b, r, hy256, rfl, HSY.out, rfl, rfl, hb16, hr64, ?_, HW.out⟩
                      have h := HLt.out
                      rw [HK.out] at h
                      exact (HB.out.leave hb0 (by omega)).congr fun f => (HDy.out f).symm
    · obtain rfl : i = L := by omega
      go_wp2
      go_ret
      refine ⟨congrArg (fun x : Nat => Ending.returned (.int .i64 x)) (pick_eq hn (by omega) (by omega) (HB.out.congr fun f => ?_)), HW.out⟩
      have := HL.out
      constructor
      · intro h; exact ⟨h.1, by have := bit_le hhk (cand_bits h.2.2).1; omega, h.2.2⟩
      · intro h; exact ⟨h.1, by omega, h.2.2⟩
end Go.Proofs.Ybulkhjc.Bx
