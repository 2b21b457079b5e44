import Derived.Test.YbulkhjcBx4
import Derived.Deep.RegionWith
import Derived.Tactics2
namespace Go.Proofs.Ybulkhjc.Bx
open Go.RowKit

theorem Row16.below {w w' : World} {a : Option Addr} {len B : Nat} {z : Nat → Nat} (h : Row16 w a len z) (hB : w.heap.size ≤ B) (hb : Below B w w') : Row16 w' a len z := by
  refine ⟨h.1, h.2.1, fun hl => ?_⟩
  obtain ⟨b, o, rfl, hbw, hc⟩ := h.2.2 hl
  exact ⟨b, o, rfl, Nat.lt_of_lt_of_le hbw hb.size, fun i hi => (hb.cell (p := ⟨b, o + i, none⟩) (by show b < B; omega)).trans (hc i hi)⟩

theorem pinv_start (n t s wb L : Nat) (hm rm : Nat → Nat) (w : World) (hb rb : Nat) (O : Obj) (w1 : World)
    (hw1 : w1 = (w.alloc (.cells (madeCells #[.slice none 0 0] n) 70)).alloc (.cells (madeCells #[.slice none 0 0] n) 70))
    (h : (hb = w.heap.size ∧ rb = w.heap.size + 1) ∨ (hb = w.heap.size + 1 ∧ rb = w.heap.size))
    (cN : (w1.alloc O).cell? ⟨w.heap.size + 2, 0, none⟩ = some (.int .i64 n))
    (cT : (w1.alloc O).cell? ⟨w.heap.size + 2, 1, none⟩ = some (.int .i64 t))
    (cS : (w1.alloc O).cell? ⟨w.heap.size + 2, 2, none⟩ = some (.int .i64 s))
    (cH : (w1.alloc O).cell? ⟨w.heap.size + 2, 8, none⟩ = some (.slice (some ⟨hb, 0, none⟩) n n))
    (cR : (w1.alloc O).cell? ⟨w.heap.size + 2, 16, none⟩ = some (.slice (some ⟨rb, 0, none⟩) n n))
    (cW : (w1.alloc O).cell? ⟨w.heap.size + 2, 21, none⟩ = some (.slice (some ⟨wb, 0, none⟩) n n)) :
    PInv w.heap.size n t s wb L hm rm w 0 0 hb rb (w1.alloc O) := by
  have s1 : w1.heap.size = w.heap.size + 2 := by subst hw1; simp
  have r0 : w1.rowIs w.heap.size 70 n (fun _ => .slice none 0 0) := by subst hw1; exact (World.rowIs_made w _ n 70).alloc _
  have r1 : w1.rowIs (w.heap.size + 1) 70 n (fun _ => .slice none 0 0) := by
    subst hw1
    have := World.rowIs_made (w.alloc (.cells (madeCells #[.slice none 0 0] n) 70)) (.slice none 0 0) n 70
    simpa using this
  have b1 : Below w.heap.size w w1 := by subst hw1; exact ((Below.refl _ _).alloc (Nat.le_refl _) _).alloc (by simp) _
  have hH : w1.rowIs hb 70 n (fun _ => .slice none 0 0) := by rcases h with ⟨rfl, rfl⟩ | ⟨rfl, rfl⟩ <;> assumption
  have hR : w1.rowIs rb 70 n (fun _ => .slice none 0 0) := by rcases h with ⟨rfl, rfl⟩ | ⟨rfl, rfl⟩ <;> assumption
  refine ⟨by omega, by omega, by omega, by omega, by omega, cN, cT, cS, cH, cR, cW, by simp [s1], ⟨fun _ => 0, (hH.alloc O).congr fun i _ => by simp, fun i hi => absurd hi (by omega)⟩, ⟨fun _ => 0, (hR.alloc O).congr fun i _ => by simp, fun i hi => absurd hi (by omega)⟩, b1.alloc (by omega) _⟩

set_option maxRecDepth 100000 in
set_option maxHeartbeats 4000000 in
theorem party_any (n t s : Nat) (ha ra : Option Addr) (hl hc rl rc : Nat) (hz rz : Nat → Nat) (wb : Nat) (hn : n ≤ 16) (w : World) (hH : Row16 w ha hl hz) (hR : Row16 w ra rl rz) :
    Calls Yba.prog 11 #[.int .i64 n, .int .i64 t, .int .i64 s, .slice ha hl hc, .slice ra rl rc, .slice (some ⟨wb, 0, none⟩) n n] w (PPost w.heap.size n t s wb ((n + 7) / 8) (mk hz hl n) (mk rz rl n) w) := by
  have HH : Hid (Row16 w ha hl hz) := hH
  have HRr : Hid (Row16 w ra rl rz) := hR
  clear hH hR
  go_enter Yba.func11, Yba.ntmps11
  go_upto_region 1 with fail
  go_cut [13] (fun p wc => p = .pointer (some ⟨w.heap.size + 2, 0, none⟩) ∧ ∃ hb rb, PInv w.heap.size n t s wb ((n + 7) / 8) (mk hz hl n) (mk rz rl n) w 0 0 hb rb wc)
  case first =>
    have hmk := fun w => run_make_row' (P := Yba.prog) 69 70 (.slice none 0 0) 24 Yba.underlying69 info70 rfl .i64 .i64 n (by omega) (by omega) w
    go_region
    all_goals (go_wp2_with fail; go_meet)
    · exact ⟨rfl, _, _, (pinv_start n t s wb _ _ _ w w.heap.size (w.heap.size + 1) _ _ rfl (.inl ⟨rfl, rfl⟩) (by go_simp) (by go_simp) (by go_simp) (by go_simp) (by go_simp) (by go_simp)).drew⟩
    · exact ⟨rfl, _, _, (pinv_start n t s wb _ _ _ w (w.heap.size + 1) w.heap.size _ _ rfl (.inr ⟨rfl, rfl⟩) (by go_simp) (by go_simp) (by go_simp) (by go_simp) (by go_simp) (by go_simp)).drew⟩
  case rest =>
    obtain ⟨rfl, hb0, rb0, hI0⟩ := hcut
    have HI0 : Hid (PInv w.heap.size n t s wb ((n + 7) / 8) (mk hz hl n) (mk rz rl n) w 0 0 hb0 rb0 wc) := hI0
    clear hI0
    go_wp2
    go_loopg [14] n (fun g i wr => g = n - (intOf i).toNat ∧ PRel w.heap.size n t s wb ((n + 7) / 8) (mk hz hl n) (mk rz rl n) w i wr)
    case atStart => exact ⟨rfl, 0, hb0, rb0, by omega, rfl, HI0.out⟩
    case round =>
      obtain ⟨hg, k, hb, rb, hk, rfl, hI⟩ := hrel
      have HI : Hid (PInv w.heap.size n t s wb ((n + 7) / 8) (mk hz hl n) (mk rz rl n) w k k hb rb wr) := hI
      clear hI
      by_cases hlt : k < n
      · go_upto_region 5 with fail
        go_cut [] (fun wc => PInv w.heap.size n t s wb ((n + 7) / 8) (mk hz hl n) (mk rz rl n) w (k + 1) k hb rb wc)
        case first =>
          have hcH := HI.out.cH
          obtain ⟨G, hG⟩ := HI.out.H
          have hfz := hG.1.frozen k
          have HD : Hid (PInv w.heap.size n t s wb ((n + 7) / 8) (mk hz hl n) (mk rz rl n) w k k hb rb wr.drew) := HI.out.drew
          have hck : wr.cell? ⟨hb, k, none⟩ = some (.slice none 0 0) := by
            have := hG.1.cell hlt
            simpa using this
          clear hG
          go_region_with (first
            | (go_at_call 13; refine (mask_any ha hl hc k n hz _ (HH.out.below (Nat.le_refl _) HD.out.below) hn).mono ?_; rintro e w' ⟨rfl, rfl⟩)
            | (go_at_call 20; refine (bset_any n (mk hz hl n k) hn (mk_lt hz hl n k) _).mono ?_; intro e w5 hp; obtain ⟨rfl, hr5, hb5⟩ := hp; have hI5 := HD.out.belowed hb5; have hcH5 := hI5.cH; have hf5 := hI5.H.choose_spec.1.frozen k; have hck5 := hI5.H.choose_spec.1.cell hlt; rw [if_neg (Nat.lt_irrefl k)] at hck5; have HI5 : Hid (PInv w.heap.size n t s wb ((n + 7) / 8) (mk hz hl n) (mk rz rl n) w k k hb rb w5) := hI5; have HR5 : Hid (w5.rowIs wr.heap.size 5 ((n + 7) / 8) (setV (mk hz hl n k))) := hr5; clear hI5 hb5 hr5))
          all_goals (go_wp2_with fail; go_meet; exact HI5.out.stepH HI.out.sz HR5.out)
        case rest =>
          have HC : Hid (PInv w.heap.size n t s wb ((n + 7) / 8) (mk hz hl n) (mk rz rl n) w (k + 1) k hb rb wc) := hcut
          clear hcut HI
          go_upto_region 6 with fail
          have hcH := HC.out.cR
          have HD : Hid (PInv w.heap.size n t s wb ((n + 7) / 8) (mk hz hl n) (mk rz rl n) w (k + 1) k hb rb wc.drew) := HC.out.drew
          obtain ⟨G, hG⟩ := HC.out.R
          have hfz := hG.1.frozen k
          have hck : wc.cell? ⟨rb, k, none⟩ = some (.slice none 0 0) := by
            have := hG.1.cell hlt
            simpa using this
          clear hG
          go_region_with (first
            | (go_at_call 13; refine (mask_any ra rl rc k n rz _ (HRr.out.below (Nat.le_refl _) HD.out.below) hn).mono ?_; rintro e w' ⟨rfl, rfl⟩)
            | (go_at_call 20; refine (bset_any n (mk rz rl n k) hn (mk_lt rz rl n k) _).mono ?_; intro e w5 hp; obtain ⟨rfl, hr5, hb5⟩ := hp; have hI5 := HD.out.belowed hb5; have hcH5 := hI5.cR; have hf5 := hI5.R.choose_spec.1.frozen k; have hck5 := hI5.R.choose_spec.1.cell hlt; rw [if_neg (Nat.lt_irrefl k)] at hck5; have HI5 : Hid (PInv w.heap.size n t s wb ((n + 7) / 8) (mk hz hl n) (mk rz rl n) w (k + 1) k hb rb w5) := hI5; have HR5 : Hid (w5.rowIs wc.heap.size 5 ((n + 7) / 8) (setV (mk rz rl n k))) := hr5; clear hI5 hb5 hr5))
          all_goals (have HE : Hid (PInv w.heap.size n t s wb ((n + 7) / 8) (mk hz hl n) (mk rz rl n) w (k + 1) (k + 1) hb rb (w5.setCell ⟨rb, k, none⟩ (.slice (some ⟨wc.heap.size, 0, none⟩) ((n + 7) / 8) ((n + 7) / 8)))) := HI5.out.stepR HC.out.sz HR5.out)
          all_goals go_wp2
          all_goals go_roundg (n - (k + 1))
          all_goals first
            | (simp [intOf] at hg; omega)
            | exact ⟨by simp [intOf], k + 1, hb, rb, by omega, by go_num, HE.out⟩
      · obtain rfl : k = n := by omega
        go_wp2
        go_ret
        exact ⟨hb, rb, rfl, HI.out⟩
end Go.Proofs.Ybulkhjc.Bx
