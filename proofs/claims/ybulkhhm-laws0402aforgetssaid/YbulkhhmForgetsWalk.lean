import Derived.Test.YbulkhhmInv3
import Derived.WalkLawsBesides
import Derived.BigQuiet
import Derived.Deep.QuietTactic
import Derived.Deep.RegionWith
namespace Go.Proofs.Ybulkhhm.Fg
open Go.RowKit Go.Maps Go.Sort

set_option maxHeartbeats 4000000 in
set_option maxRecDepth 100000 in
theorem law_walk (a : Option Addr) (len cap : Nat) (now : Int) (eb eo : Nat) (p : Nat → Int) (iss : Nat → ByteArray) (w : World) (hlen : len ≤ 1024) (g0 : -9223372036854775808 ≤ now) (g1 : now ≤ 9223372036854775807)
    (heb : 0 < len → eb < w.heap.size) (hix : ∀ i, i < len → ∀ w', (Instr.indexAt 22 (.slice a len cap) (.int .i64 (i : Int))).run Yba.prog w' = .ok (.pointer (some ⟨eb, eo + i * 2, none⟩)) w')
    (hp : ∀ i, i < len → w.cell? ⟨eb, eo + i * 2, none⟩ = some (.int .i64 (p i)) ∧ w.cell? ⟨eb, eo + i * 2 + 1, none⟩ = some (.string (iss i)) ∧ -9223372036854775808 ≤ p i ∧ p i ≤ 9223372036854775807) :
    Calls Yba.prog 3 #[.slice a len cap, .int .i64 now] w fun e w' => e = .returned (.bool true) ∧ Below w.heap.size w w' := by
  have hmk := fun w => run_make_row' 42 43 (.pointer none) 8 Yba.underlying42 info43 rfl .i64 .i64 len (by omega) (by omega) w
  have hmm := @run_makeMap Yba.prog
  have HIX : Hid (∀ i, i < len → ∀ w', (Instr.indexAt 22 (.slice a len cap) (.int .i64 (i : Int))).run Yba.prog w' = .ok (.pointer (some ⟨eb, eo + i * 2, none⟩)) w') := hix
  have HP : Hid (∀ i, i < len → w.cell? ⟨eb, eo + i * 2, none⟩ = some (.int .i64 (p i)) ∧ w.cell? ⟨eb, eo + i * 2 + 1, none⟩ = some (.string (iss i)) ∧ -9223372036854775808 ≤ p i ∧ p i ≤ 9223372036854775807) := hp
  clear hix hp
  have hlay : Lay w w.heap.size (w.heap.size + 1) (w.heap.size + 1 + 1) (w.heap.size + 1 + 1 + 1) := ⟨Nat.le_refl _, by omega, by omega, by omega⟩
  go_enter Yba.func3, Yba.ntmps3
  go_wp2
  go_loopw [8] (fun i wr => ∃ k b D, k ≤ len ∧ i = .int .i64 (k : Nat) ∧ Inv w.heap.size (w.heap.size + 1) (w.heap.size + 1 + 1) (w.heap.size + 1 + 1 + 1) w len p iss k (fun _ => true) b D wr) (fun i _ => len - (intOf i).toNat)
  case atStart => exact ⟨0, _, _, by omega, rfl, inv_start w len p iss _ rfl⟩
  case round =>
    obtain ⟨k, b, D, hk, rfl, hI⟩ := hrel
    clear hmk hmm
    by_cases hlt : k < len
    · have hx := HIX.out k hlt
      obtain ⟨c0, c1, q0, q1⟩ := HP.out k hlt
      have d0 := (hI.below.cell (p := ⟨eb, eo + k * 2, none⟩) (heb (by omega))).trans c0
      have d1 := (hI.below.cell (p := ⟨eb, eo + k * 2 + 1, none⟩) (heb (by omega))).trans c1
      have hebr : eb < wr.heap.size := Nat.lt_of_lt_of_le (heb (by omega)) hI.below.size
      have hpk : wr.cell? ⟨w.heap.size + 1 + 1 + 1, k, none⟩ = some (.pointer none) := by rw [hI.ptrs k hlt, if_neg (by omega)]
      have hfk := hI.free k hlt
      have hst := hI.store
      have hb3 := hI.size
      clear c0 c1
      by_cases hz : p k = 0
      · have hz' : (p k != 0) = false := by simp [hz]
        have HZ : Hid (p k = 0) := hz
        clear hz
        go_wp2
        rw [← World.setCell_alloc_past _ _ _ _ hb3]
        have hb2 : Below wr.heap.size wr (wr.alloc (.cells #[.slice none 0 0, .string (iss k), .string ⟨#[]⟩, .int .i64 0, .int .i64 0, .int .u64 0, .int .i64 0, .pointer none, .int .i64 0, .int .i64 0, .int .u64 0, .int .i64 0, .pointer none, .pointer none] 50)) := (Below.refl _ _).alloc (Nat.le_refl _) _
        have hnb : wr.heap.size < (wr.alloc (.cells #[.slice none 0 0, .string (iss k), .string ⟨#[]⟩, .int .i64 0, .int .i64 0, .int .u64 0, .int .i64 0, .pointer none, .int .i64 0, .int .i64 0, .int .u64 0, .int .i64 0, .pointer none, .pointer none] 50)).heap.size := by simp
        have hi2 : (wr.alloc (.cells #[.slice none 0 0, .string (iss k), .string ⟨#[]⟩, .int .i64 0, .int .i64 0, .int .u64 0, .int .i64 0, .pointer none, .int .i64 0, .int .i64 0, .int .u64 0, .int .i64 0, .pointer none, .pointer none] 50)).cell? ⟨wr.heap.size, 1, none⟩ = some (.string (iss k)) := by simp
        have hp2 : Pend (wr.alloc (.cells #[.slice none 0 0, .string (iss k), .string ⟨#[]⟩, .int .i64 0, .int .i64 0, .int .u64 0, .int .i64 0, .pointer none, .int .i64 0, .int .i64 0, .int .u64 0, .int .i64 0, .pointer none, .pointer none] 50)) wr.heap.size (p k) := pend_zero HZ.out
        generalize wr.alloc (.cells #[.slice none 0 0, .string (iss k), .string ⟨#[]⟩, .int .i64 0, .int .i64 0, .int .u64 0, .int .i64 0, .pointer none, .int .i64 0, .int .i64 0, .int .u64 0, .int .i64 0, .pointer none, .pointer none] 50) = w2 at hb2 hnb hi2 hp2 ⊢
        have h2 := hI.kept hlay hb2
        have hst2 := h2.storeAt hlay (.pointer (some ⟨wr.heap.size, 0, none⟩))
        clear hpk hfk hst d0 d1 hx hz' HZ
        go_region_with (first | (go_at_call 8; refine (name_any k (by omega) _).mono ?_; rintro e w4 ⟨rfl, hb4⟩; obtain ⟨hs4, w5, hrun5, hown5, hturn5⟩ := h2.afterName hlay hlt hlen hb4))
        all_goals
          have hI5 := hI.step hlay hlt hlen hb2 hnb hi2 hp2 (below_bare hb4) hown5 hturn5 (fun _ => rfl)
          clear hI hrun5 hown5 hturn5 hb4 hs4 hst2 h2 hp2 hi2
          go_wp2
          go_roundw
          case rel => exact ⟨k + 1, _, _, by omega, by go_num, hI5⟩
          case measure => simp [intOf]; omega
      · have hz' : (p k != 0) = true := by simp [hz]
        have e0 := hI.base0
        have e1 := hI.base1
        have e2 := hI.base2
        have hb0 : w.heap.size < wr.heap.size := by omega
        clear hz hpk hfk hst
        go_wp2
        have hA := fun w' => add_any (p k) q0 q1 w'
        go_region_with (first | (go_at_call 7; refine (hA _).mono ?_; rintro e w1 ⟨rfl, hb1⟩; have f5 := hb1.cell (p := ⟨wr.heap.size, 5, none⟩) (by simp); have f6 := hb1.cell (p := ⟨wr.heap.size, 6, none⟩) (by simp); have f7 := hb1.cell (p := ⟨wr.heap.size, 7, none⟩) (by simp); have f1 := hb1.cell (p := ⟨wr.heap.size, 1, none⟩) (by simp); have z5 := hb1.frozen (p := ⟨wr.heap.size, 5, none⟩) (by simp); have z6 := hb1.frozen (p := ⟨wr.heap.size, 6, none⟩) (by simp); have z7 := hb1.frozen (p := ⟨wr.heap.size, 7, none⟩) (by simp); simp at f5 f6 f7 f1 z5 z6 z7; unfold tmv))
        all_goals
          obtain ⟨w2, hw2, hb2, hnb, hi2, hp2⟩ := acct_stored (p := p k) hb1 f1 f5 f6 f7
          rw [hw2]
          have h2 := hI.kept hlay hb2
          have hpk : w2.cell? ⟨w.heap.size + 1 + 1 + 1, k, none⟩ = some (.pointer none) := by rw [h2.ptrs k hlt, if_neg (by omega)]
          have hfk := h2.free k hlt
          have hst2 := h2.storeAt hlay (.pointer (some ⟨wr.heap.size, 0, none⟩))
          have hb32 := h2.size
          clear hw2 f1 f5 f6 f7 z5 z6 z7 hb1 e0 e1 e2 hA d0 d1 hx hz'
          go_wp2
          go_region_with (first | (go_at_call 8; refine (name_any k (by omega) _).mono ?_; rintro e w4 ⟨rfl, hb4⟩; obtain ⟨hs4, w5, hrun5, hown5, hturn5⟩ := h2.afterName hlay hlt hlen hb4))
          all_goals
            have hI5 := hI.step hlay hlt hlen hb2 hnb hi2 hp2 (below_bare hb4) hown5 hturn5 (fun _ => rfl)
            clear hI hrun5 hown5 hturn5 hb4 hs4 hst2 h2 hp2 hi2
            go_wp2
            go_roundw
            case rel => exact ⟨k + 1, _, _, by omega, by go_num, hI5⟩
            case measure => simp [intOf]; omega
    · obtain rfl : k = len := by omega
      have e0 := hI.base0
      have e1 := hI.base1
      have e2 := hI.base2
      go_wp2_with fail
      refine (add_any now g0 g1 _).mono ?_
      rintro e w1 ⟨rfl, hb1⟩
      have hI1 := hI.kept hlay hb1
      clear hI e0 e1 e2 hb1
      go_wp2_with fail
      refine (forget_any (w.heap.size + 1 + 1) (w.heap.size + 1) k now p b D w1 hlen hI1.store (by have := hI1.size; omega) (by omega) hI1.own hI1.map (hI1.handed hlay)).mono ?_
      rintro e w2 ⟨rfl, hg2, D2, hown2, hm2⟩
      have hI2 := hI1.forgot hlay hg2 hown2 hm2
      clear hI1 hg2 hown2 hm2
      go_wp2
      go_loopw [10, 11] (fun c i wr => ∃ m : Nat, m ≤ k ∧ i = .int .i64 (m : Nat) ∧ c = .int .i64 (cnt (fun i => !lapB now (p i)) m : Nat) ∧ Inv w.heap.size (w.heap.size + 1) (w.heap.size + 1 + 1) (w.heap.size + 1 + 1 + 1) w k p iss k (fun i => !lapB now (p i)) b D2 wr) (fun _ i _ => k - (intOf i).toNat)
      case atStart => exact ⟨0, by omega, rfl, rfl, hI2⟩
      case round =>
        clear hI2
        obtain ⟨m, hm, rfl, rfl, hI⟩ := hrel
        have hcl := cnt_le (fun i => !lapB now (p i)) m
        by_cases hlt2 : m < k
        · have hx := HIX.out m hlt2
          obtain ⟨c0, c1, q0, q1⟩ := HP.out m hlt2
          have d0 := (hI.below.cell (p := ⟨eb, eo + m * 2, none⟩) (heb (by omega))).trans c0
          have hN : ∀ d os, Calls Yba.prog 8 #[.int .i64 m] (grow (redrawn wr d) os) fun e w'' => e = .returned (.string (nameOf m)) ∧ ∃ p : Regrown, w'' = grow (redrawn wr p.d) p.os := fun d os => Calls.regrown_of (name_any m (by omega) _)
          have hst : ∀ d os, (grow (redrawn wr d) os).cell? ⟨w.heap.size + 1 + 1, 2, none⟩ = some (.map (some (w.heap.size + 1))) := fun d os => cell_regrown hI.store d os
          clear c0
          cases hlap : lapB now (p m)
          · have hlk := hI.look_yes hlt2 (by simp [hlap])
            have HC : Hid (cnt (fun i => !lapB now (p i)) (m + 1) = cnt (fun i => !lapB now (p i)) m + 1) := by
              show _ = _
              simp [cnt, hlap]
            have hcase : (p m != 0) = false ∨ ((p m != 0) = true ∧ ¬ p m ≤ now) := by
              unfold lapB at hlap
              cases e : (p m == 0)
              · right; simp [e] at hlap; simp at e; exact ⟨by simpa using e, by omega⟩
              · left; simpa using e
            clear hlap
            rcases hcase with hz | ⟨hz, hle⟩
            all_goals
              go_wp2
              refine wp_region_quiet_below (by kernel_rfl) (by kernel_rfl) ?_
              repeat (go_big_quiet_step (exact hN _ _))
              refine wpQuiet_nil ?_
              intro _ hw'
              obtain ⟨⟨dq, osq⟩, hw''⟩ := hw'
              subst hw''
              have hI3 := hI.kept hlay (below_regrown wr dq osq)
              generalize grow (redrawn wr dq) osq = w3 at hI3 ⊢
              have d1 := (hI3.below.cell (p := ⟨eb, eo + m * 2 + 1, none⟩) (heb (by omega))).trans c1
              have hpm : w3.cell? ⟨w.heap.size + 1 + 1 + 1, m, none⟩ = some (.pointer (some ⟨b m, 0, none⟩)) := by rw [hI3.ptrs m hlt2, if_pos hlt2]
              obtain ⟨b1, b2, b3, t5, t6, t7⟩ := hI3.acc m hlt2
              have hmi : (m : Int) < (k : Int) := by omega
              have hns := neqSame
              clear hI hN hst hlk d0
              go_wp2
              go_quiet (fail)
              go_wp2_with fail
              refine (isZero_time (p m) _).mono ?_
              rintro e w4 ⟨rfl, hb4⟩
              have hI4 := hI3.kept hlay ⟨hb4.os, hb4.tape, hb4.output, hb4.size, hb4.block⟩
              clear hI3 hb4 t5 t6 t7 b3 hpm d1 hx hns
              go_wp2
              go_roundw
              case rel => exact ⟨m + 1, by omega, by go_num, by rw [HC.out]; go_num, hI4⟩
              case measure => simp [intOf]; omega
          · have hz : (p m != 0) = true := by unfold lapB at hlap; simp at hlap; simp; exact hlap.1
            have hle : p m ≤ now := by unfold lapB at hlap; simp at hlap; exact hlap.2
            have hlk := hI.look_no hlt2 hlen (by simp [hlap])
            have HC : Hid (cnt (fun i => !lapB now (p i)) (m + 1) = cnt (fun i => !lapB now (p i)) m) := by
              show _ = _
              simp [cnt, hlap]
            clear hlap
            go_wp2
            refine wp_region_quiet_below (by kernel_rfl) (by kernel_rfl) ?_
            repeat (go_big_quiet_step (exact hN _ _))
            refine wpQuiet_nil ?_
            intro _ hw'
            obtain ⟨⟨dq, osq⟩, hw''⟩ := hw'
            subst hw''
            have hI3 := hI.kept hlay (below_regrown wr dq osq)
            generalize grow (redrawn wr dq) osq = w3 at hI3 ⊢
            clear hI hN hst hlk d0 hx
            go_wp2
            go_roundw
            case rel => exact ⟨m + 1, by omega, by go_num, by rw [HC.out], hI3⟩
            case measure => simp [intOf]; omega
        · obtain rfl : m = k := by omega
          have hst := hI.store
          have hln := hI.own.len Yba.underlying28 3
          have HS : Hid (size D2 = cnt (fun i => !lapB now (p i)) m) := hI.map.count
          have hbl := hI.below
          clear hI
          go_wp2
          go_ret
          exact ⟨congrArg (fun x => Ending.returned (.bool x)) (by rw [HS.out]; simp), hbl⟩
end Go.Proofs.Ybulkhhm.Fg
