import Derived.Test.YbulkhjcPre2
namespace Go.Proofs.Ybulkhjc.Fr
open Go.RowKit Go.Lib

set_option maxHeartbeats 8000000 in
set_option maxRecDepth 100000 in
theorem law_same (nn : Int) (agree other k : Nat) (kd bk ini : UInt8) (a8 : Option Addr) (len8 cap8 : Nat) (P : List UInt8) (w : World) (h0 : -9223372036854775808 ≤ nn) (h1 : nn ≤ 9223372036854775807) (hag : agree < 18446744073709551616) (_hot : other < 18446744073709551616) (hk : k < 18446744073709551616)
    (hP : Pay w a8 len8 cap8 P) (hlen : len8 ≤ 1024) :
    Calls Yba.prog 3 #[.int .i64 nn, .int .u64 agree, .bool true, .int .u64 other, .int .u8 kd.toNat, .int .u8 bk.toNat, .int .u8 ini.toNat, .int .u64 k, .slice a8 len8 cap8] w fun e w' => e = .returned (.bool true) ∧ Below w.heap.size w w' := by
  have hl' : ¬ 1024 < (len8 : Int) := by omega
  have la := uvarint_length64 (x := agree) (by omega)
  have lk := uvarint_length64 hk
  go_enter Yba.func3, Yba.ntmps3
  go_wp2_with fail
  obtain ⟨pre0, own0⟩ := pre_start w nn agree kd bk ini #[.int .i64 nn, .int .i64 0, .int .u64 agree, .int .i64 0, .nilFunc, .int .u8 0, .int .i64 0, .bool false, .int .i64 0, .bool false, .map none, .map none, .int .i64 0, .int .i64 0, .bool false, .int .u8 0, .int .i64 0, .int .i64 0, .slice none 0 0, .int .i64 0, .slice none 0 0, .slice none 0 0, .int .i64 0, .slice none 0 0, .int .i64 0, .slice none 0 0] rfl rfl
  refine (Yba.binary_AppendUvarint (w.heap.size + 1) 3 agree (by omega) _ _ _ own0 pre0.size (by omega)).mono ?_
  rintro e w1 ⟨v1, rfl, own1, hb1⟩
  have pre1 := pre0.next hb1
  clear pre0 own0 hb1
  go_wp2_with fail
  refine (Yba.binary_AppendUvarint (w.heap.size + 1) _ k hk _ _ _ own1 pre1.size (by omega)).mono ?_
  rintro e w2 ⟨v2, rfl, own2, hb2⟩
  have pre2 := pre1.next hb2
  clear pre1 own1 hb2
  have hP2 := hP.below (Nat.le_refl _) pre2.below
  go_wp2_with (at_builtin; refine wpList_append_pay rfl _ _ rfl (w.heap.size + 1) v2 _ _ rfl own2 a8 len8 cap8 P rfl hP2 (by omega) hlen pre2.size ?_; intro v3 w3 own3 hb3; have pre3 := pre2.next hb3; obtain ⟨g, n, c, hv3, hg1, hg2, hln, G⟩ := pre_end pre3 (mid := agree) (by omega) hk hP.1 hlen own3; rw [hv3])
  refine (parse_any G len8 hP.1 h1 (P.getD (len8 - 1) 0).toNat (fun h => given_pay G hP.1 _ (by omega))).mono ?_
  rintro e w4 hps
  have q23 : ∀ (w : World) (a : Option Addr) (n c n' c' : Nat), (binOp .eql 23 (.slice a n c) (.slice none n' c')).run Yba.prog w = .ok (.bool a.isNone) w := fun w a n c n' c' => Lib.run_eql_slice_nil w _ _ a n c n' c' Yba.underlying23
  have hkd : (kd.toNat : Int) ≤ 255 := by have := kd.toNat_lt; omega
  have hini : (ini.toNat : Int) ≤ 255 := by have := ini.toNat_lt; omega
  have hlb : ((P.getD (len8 - 1) 0).toNat : Int) ≤ 255 := by have := (P.getD (len8 - 1) 0).toNat_lt; omega
  have hPw := hP
  have HG : Hid (∀ i, i < len8 → w3.cell? ⟨g, n - len8 + i, none⟩ = some (.int .u8 (P.getD i 0).toNat)) := fun i hi => given_pay G hP.1 i hi
  generalize hlbe : (P.getD (len8 - 1) 0).toNat = lb at hps hlb
  have HLB : Hid ((P.getD (len8 - 1) 0).toNat = lb) := hlbe
  clear hlbe G own2 own3 hv3 hP2 pre2 hb3 la lk
  rcases hps with ⟨hwant, X, C, rfl, hX, hb4⟩ | ⟨hnot, rfl, hb4⟩
  · have hbw : Below w.heap.size w w4 := pre3.below.trans (hb4.mono pre3.below.size)
    obtain ⟨c1, c2, c3, c4, c5, c6, c7, c8⟩ := hwant
    have hX' := hX (by omega)
    subst hX'
    obtain ⟨qb, qo, ha8, hq, hqc⟩ := pay_at hPw c7
    subst ha8
    have hcl : w4.cell? ⟨qb, qo + (len8 - 1), none⟩ = some (.int .u8 lb) := by
      rw [hbw.cell (p := ⟨qb, qo + (len8 - 1), none⟩) hq, hqc _ (by omega), HLB.out]
    have HE : Hid (∀ W, Below w4.heap.size w4 W → Calls Yba.prog 9 #[.slice (some ⟨g, n - len8, none⟩) len8 C, .slice (some ⟨qb, qo, none⟩) len8 cap8] W fun e w' => e = .returned (.bool true) ∧ Below W.heap.size W w') := fun W hW =>
      equal_same g (n - len8) C qb qo cap8 len8 (fun i => (P.getD i 0).toNat) W hlen (fun i hi => by rw [hW.cell (p := ⟨g, n - len8 + i, none⟩) (by have := hb4.size; simp; omega), hb4.cell (p := ⟨g, n - len8 + i, none⟩) (by simp; omega)]; exact HG.out i hi)
        (fun i hi => by rw [hW.cell (p := ⟨qb, qo + i, none⟩) (by have := hbw.size; simp; omega), hbw.cell (p := ⟨qb, qo + i, none⟩) hq]; exact hqc i hi)
    have d1 : (((agree : Nat) : Int) == (agree : Int)) = true := beq_t (by omega)
    have d2 : 1 ≤ (ini.toNat : Int) := by omega
    have d4 : (k : Int) ≤ 2147483647 := by omega
    have d7 : 0 < (len8 : Int) := by omega
    have d7' : 1 ≤ len8 := c7
    have d8 : (lb : Int) ≤ 1 := by omega
    have hK : (((kd.toNat : Int) == 1) = true ∧ ((kd.toNat : Int) == 4) = false ∧ ((k : Int) == 0) = false ∧ ((len8 : Int) == 1) = true) ∨ (((kd.toNat : Int) == 1) = false ∧ ((kd.toNat : Int) == 4) = true ∧ ((k : Int) == 0) = true ∧ ((len8 : Int) == 1) = true) ∨
        (((kd.toNat : Int) == 1) = false ∧ ((kd.toNat : Int) == 4) = false ∧ ((kd.toNat : Int) == 2) = true ∧ ((k : Int) == 0) = false ∧ ((len8 : Int) == wrap64 (wrap64 ((wrap64 (nn + 7)).tdiv 8) + 1)) = true) ∨
        (((kd.toNat : Int) == 1) = false ∧ ((kd.toNat : Int) == 4) = false ∧ ((kd.toNat : Int) == 2) = false ∧ ((kd.toNat : Int) == 3) = true ∧ ((k : Int) == 0) = false ∧ ((len8 : Int) == wrap64 (wrap64 ((wrap64 (nn + 7)).tdiv 8) + 1)) = true) := by
      rcases c6 with ⟨e | e, l⟩ | ⟨e | e, l⟩
      · exact .inl ⟨beq_t (by omega), beq_f (by omega), beq_f (by omega), beq_t (by omega)⟩
      · exact .inr (.inl ⟨beq_f (by omega), beq_t (by omega), beq_t (by omega), beq_t (by omega)⟩)
      · exact .inr (.inr (.inl ⟨beq_f (by omega), beq_f (by omega), beq_t (by omega), beq_f (by omega), beq_t l⟩))
      · exact .inr (.inr (.inr ⟨beq_f (by omega), beq_f (by omega), beq_f (by omega), beq_t (by omega), beq_f (by omega), beq_t l⟩))
    have hqw : qb < w4.heap.size := by have := hbw.size; omega
    clear hX hb4 c1 c2 c4 c5 c6 c7 c8 hqc hP hPw
    rcases hK with ⟨e1, e4, ek, el⟩ | ⟨e1, e4, ek, el⟩ | ⟨e1, e4, e2, ek, el⟩ | ⟨e1, e4, e2, e3, ek, el⟩
    all_goals
      go_wp2_with fail
      refine (HE.out _ ((Below.refl _ _).alloc (Nat.le_refl _) _)).mono ?_
      rintro e w5 ⟨rfl, hb5⟩
      go_wp2
      go_ret
      exact ⟨rfl, (hbw.alloc hbw.size _).trans (hb5.mono (by have := hbw.size; simp; omega))⟩
  · have hbw : Below w.heap.size w w4 := pre3.below.trans (hb4.mono pre3.below.size)
    have hlast : 1 ≤ len8 → ∃ ad, (∀ W, (Instr.indexAt 23 (.slice a8 len8 cap8) (.int .i64 ((len8 : Int) - 1))).run Yba.prog W = .ok (.pointer (some ad)) W) ∧ (w4.alloc (.cells #[.int .u8 0, .int .i64 0, .int .i64 0] 41)).cell? ad = some (.int .u8 lb) := fun h => by
      obtain ⟨ad, h1, h2⟩ := pay_last hPw (hbw.alloc hbw.size (.cells #[.int .u8 0, .int .i64 0, .int .i64 0] 41)) h
      rw [HLB.out] at h2
      exact ⟨ad, h1, h2⟩
    clear HG hPw hP hb4
    have c1 : agree = agree := rfl
    have d1 : (((agree : Nat) : Int) == (agree : Int)) = true := beq_t (by omega)
    by_cases d2 : 1 ≤ (ini.toNat : Int)
    case neg =>
      clear hlast c1
      go_wp2
      go_ret
      exact ⟨rfl, hbw.alloc hbw.size _⟩
    by_cases d3 : (ini.toNat : Int) ≤ nn
    case neg =>
      clear hlast c1
      go_wp2
      go_ret
      exact ⟨rfl, hbw.alloc hbw.size _⟩
    by_cases d4 : (k : Int) ≤ 2147483647
    case neg =>
      clear hlast c1
      go_wp2
      go_ret
      exact ⟨rfl, hbw.alloc hbw.size _⟩
    by_cases c5 : (k = 0 ↔ kd.toNat = 4)
    case neg =>
      have hK : (((kd.toNat : Int) == 4) = false ∧ ((k : Int) == 0) = true) ∨ (((kd.toNat : Int) == 4) = true ∧ ((k : Int) == 0) = false) := by
        by_cases k0 : k = 0
        · exact .inl ⟨beq_f (by omega), beq_t (by omega)⟩
        · exact .inr ⟨beq_t (by omega), beq_f (by omega)⟩
      clear hlast c1 c5
      rcases hK with ⟨e4, ek⟩ | ⟨e4, ek⟩
      all_goals
        go_wp2
        go_ret
        exact ⟨rfl, hbw.alloc hbw.size _⟩
    by_cases kA : kd.toNat = 1 ∨ kd.toNat = 4
    · have hK : (((kd.toNat : Int) == 1) = true ∧ ((kd.toNat : Int) == 4) = false ∧ ((k : Int) == 0) = false) ∨ (((kd.toNat : Int) == 1) = false ∧ ((kd.toNat : Int) == 4) = true ∧ ((k : Int) == 0) = true) := by
        rcases kA with e | e
        · exact .inl ⟨beq_t (by omega), beq_f (by omega), beq_f (by omega)⟩
        · exact .inr ⟨beq_f (by omega), beq_t (by omega), beq_t (by omega)⟩
      by_cases l1 : len8 = 1
      case neg =>
        have el : ((len8 : Int) == 1) = false := beq_f (by omega)
        clear hlast c1 c5 kA l1
        rcases hK with ⟨e1, e4, ek⟩ | ⟨e1, e4, ek⟩
        all_goals
          go_wp2
          go_ret
          exact ⟨rfl, hbw.alloc hbw.size _⟩
      have d8 : ¬ (lb : Int) ≤ 1 := fun h => hnot ⟨c1, by omega, d3, by omega, c5, .inl ⟨kA, l1⟩, by omega, by omega⟩
      have d8b : decide ((lb : Int) ≤ 1) = false := by simpa using d8
      have el : ((len8 : Int) == 1) = true := beq_t (by omega)
      obtain ⟨ad, hix, hcl⟩ := hlast (by omega)
      have d7 : 0 < (len8 : Int) := by omega
      clear hlast c1 c5 kA l1
      rcases hK with ⟨e1, e4, ek⟩ | ⟨e1, e4, ek⟩
      all_goals
        go_wp2
        go_ret
        exact ⟨rfl, hbw.alloc hbw.size _⟩
    by_cases kB : kd.toNat = 2 ∨ kd.toNat = 3
    · have hK : (((kd.toNat : Int) == 1) = false ∧ ((kd.toNat : Int) == 4) = false ∧ ((kd.toNat : Int) == 2) = true ∧ ((k : Int) == 0) = false) ∨ (((kd.toNat : Int) == 1) = false ∧ ((kd.toNat : Int) == 4) = false ∧ ((kd.toNat : Int) == 2) = false ∧ ((kd.toNat : Int) == 3) = true ∧ ((k : Int) == 0) = false) := by
        rcases kB with e | e
        · exact .inl ⟨beq_f (by omega), beq_f (by omega), beq_t (by omega), beq_f (by omega)⟩
        · exact .inr ⟨beq_f (by omega), beq_f (by omega), beq_f (by omega), beq_t (by omega), beq_f (by omega)⟩
      by_cases l2 : (len8 : Int) = bl nn
      case neg =>
        have el : ((len8 : Int) == wrap64 (wrap64 ((wrap64 (nn + 7)).tdiv 8) + 1)) = false := beq_f l2
        clear hlast c1 c5 kA kB l2
        rcases hK with ⟨e1, e4, e2, ek⟩ | ⟨e1, e4, e2, e3, ek⟩
        all_goals
          go_wp2
          go_ret
          exact ⟨rfl, hbw.alloc hbw.size _⟩
      have hp1 := bl_pos (by omega) h1 l2
      have d8 : ¬ (lb : Int) ≤ 1 := fun h => hnot ⟨c1, by omega, d3, by omega, c5, .inr ⟨kB, l2⟩, hp1, by omega⟩
      have d8b : decide ((lb : Int) ≤ 1) = false := by simpa using d8
      have el : ((len8 : Int) == wrap64 (wrap64 ((wrap64 (nn + 7)).tdiv 8) + 1)) = true := beq_t l2
      obtain ⟨ad, hix, hcl⟩ := hlast hp1
      have d7 : 0 < (len8 : Int) := by omega
      clear hlast c1 c5 kA kB l2
      rcases hK with ⟨e1, e4, e2, ek⟩ | ⟨e1, e4, e2, e3, ek⟩
      all_goals
        go_wp2
        go_ret
        exact ⟨rfl, hbw.alloc hbw.size _⟩
    · have e1 : ((kd.toNat : Int) == 1) = false := beq_f (by omega)
      have e2 : ((kd.toNat : Int) == 2) = false := beq_f (by omega)
      have e3 : ((kd.toNat : Int) == 3) = false := beq_f (by omega)
      have e4 : ((kd.toNat : Int) == 4) = false := beq_f (by omega)
      have ek : ((k : Int) == 0) = false := beq_f (by omega)
      clear hlast c1 c5 kA kB
      go_wp2
      go_ret
      exact ⟨rfl, hbw.alloc hbw.size _⟩
end Go.Proofs.Ybulkhjc.Fr
