import Derived.Test.YbulkhhmTime
import Derived.BigQuiet
import Derived.Deep.QuietTactic
import Derived.Deep.RegionWith
import Derived.Lib.QuietBelow
namespace Go.Proofs.Ybulkhhm.Fg
open Go.RowKit Go.Sort

/-- the account at block b is pending till p nanoseconds behind the zero time (0: active) -/
def Pend (w : World) (b : Nat) (p : Int) : Prop :=
  w.cell? ⟨b, 5, none⟩ = some (.int .u64 (p % 1000000000)) ∧ w.cell? ⟨b, 6, none⟩ = some (.int .i64 (p / 1000000000)) ∧ w.cell? ⟨b, 7, none⟩ = some (.pointer none)

theorem Pend.below {w w' : World} {b B : Nat} {p : Int} (h : Pend w b p) (hb : Below B w w') (hlt : b < B) : Pend w' b p :=
  ⟨(hb.cell (p := ⟨b, 5, none⟩) hlt).trans h.1, (hb.cell (p := ⟨b, 6, none⟩) hlt).trans h.2.1, (hb.cell (p := ⟨b, 7, none⟩) hlt).trans h.2.2⟩

theorem zero_law (p : Int) : ((p % 1000000000 == 0) && (p / 1000000000 == 0)) = (p == 0) := by
  rw [Bool.eq_iff_iff]; simp; omega

set_option maxRecDepth 100000 in
theorem active_any (b : Nat) (p : Int) (z : Bool) (hz : (p == 0) = z) (w : World) (hp : Pend w b p) :
    Calls Yba.prog 19 #[.pointer (some ⟨b, 0, none⟩)] w fun e w' => e = .returned (.bool z) ∧ Below w.heap.size w w' := by
  have HZ : Hid ((p == 0) = z) := hz
  clear hz
  obtain ⟨h5, h6, h7⟩ := hp
  go_enter Yba.func19, Yba.ntmps19
  go_wp2_with fail
  refine (isZero_any (p % 1000000000) (p / 1000000000) none _).mono ?_
  rintro e w' ⟨rfl, hb⟩
  go_wp2
  go_ret
  exact ⟨congrArg (fun x => Ending.returned (.bool x)) ((zero_law p).trans HZ.out), hb⟩

set_option maxRecDepth 100000 in
theorem lapsed_active (b : Nat) (n : Int) (w : World) (hp : Pend w b 0) (hb : b < w.heap.size) :
    Calls Yba.prog 17 #[.pointer (some ⟨b, 0, none⟩), tmv n] w fun e w' => e = .returned (.bool false) ∧ Below w.heap.size w w' := by
  have hA : ∀ o d os, Calls Yba.prog 19 #[.pointer (some ⟨b, 0, none⟩)] (grow (redrawn (w.alloc o) d) os) fun e w'' => e = .returned (.bool true) ∧ ∃ p : Regrown, w'' = grow (redrawn (w.alloc o) p.d) p.os :=
    fun o d os => Calls.regrown_of (active_any b 0 true rfl _ ((hp.below ((Below.refl w.heap.size w).alloc (Nat.le_refl _) o) hb).below (below_regrown _ d os) (by simp; omega)))
  unfold tmv
  go_enter Yba.func17, Yba.ntmps17
  go_wp2
  refine wp_region_quiet_below (by kernel_rfl) (by kernel_rfl) ?_
  repeat (go_big_quiet_step (exact hA _ _ _))
  refine wpQuiet_nil ?_
  intro _ hw'
  obtain ⟨⟨dq, osq⟩, hw''⟩ := hw'
  subst hw''
  go_wp2
  go_ret
  exact ⟨rfl, ((Below.refl _ _).alloc (Nat.le_refl _) _).trans ((below_regrown _ dq osq).mono (by simp))⟩

set_option maxRecDepth 100000 in
theorem lapsed_pending (b : Nat) (n p : Int) (w : World) (hz : (p == 0) = false) (hp : Pend w b p) (hb : b < w.heap.size) :
    Calls Yba.prog 17 #[.pointer (some ⟨b, 0, none⟩), tmv n] w fun e w' => e = .returned (.bool (!decide (n < p))) ∧ Below w.heap.size w w' := by
  have hA : ∀ o d os, Calls Yba.prog 19 #[.pointer (some ⟨b, 0, none⟩)] (grow (redrawn (w.alloc o) d) os) fun e w'' => e = .returned (.bool false) ∧ ∃ p : Regrown, w'' = grow (redrawn (w.alloc o) p.d) p.os :=
    fun o d os => Calls.regrown_of (active_any b p false hz _ ((hp.below ((Below.refl w.heap.size w).alloc (Nat.le_refl _) o) hb).below (below_regrown _ d os) (by simp; omega)))
  have hB : ∀ o d os, Calls Yba.prog 20 #[tmv n, tmv p] (grow (redrawn (w.alloc o) d) os) fun e w'' => e = .returned (.bool (decide (n < p))) ∧ ∃ p : Regrown, w'' = grow (redrawn (w.alloc o) p.d) p.os :=
    fun o d os => Calls.regrown_of (before_any n p _)
  have q5 : ∀ o d os, (grow (redrawn (w.alloc o) d) os).cell? ⟨b, 5, none⟩ = _ := fun o d os => cell_regrown (((hp.below ((Below.refl w.heap.size w).alloc (Nat.le_refl _) o) hb)).1) d os
  have q6 : ∀ o d os, (grow (redrawn (w.alloc o) d) os).cell? ⟨b, 6, none⟩ = _ := fun o d os => cell_regrown (((hp.below ((Below.refl w.heap.size w).alloc (Nat.le_refl _) o) hb)).2.1) d os
  have q7 : ∀ o d os, (grow (redrawn (w.alloc o) d) os).cell? ⟨b, 7, none⟩ = _ := fun o d os => cell_regrown (((hp.below ((Below.refl w.heap.size w).alloc (Nat.le_refl _) o) hb)).2.2) d os
  have c0 : ∀ x0 x1 x2 d os, (grow (redrawn (w.alloc (.cells #[x0, x1, x2] 26)) d) os).cell? ⟨w.heap.size, 0, none⟩ = some x0 := fun _ _ _ _ _ => cell_regrown (by simp) _ _
  have c1 : ∀ x0 x1 x2 d os, (grow (redrawn (w.alloc (.cells #[x0, x1, x2] 26)) d) os).cell? ⟨w.heap.size, 1, none⟩ = some x1 := fun _ _ _ _ _ => cell_regrown (by simp) _ _
  have c2 : ∀ x0 x1 x2 d os, (grow (redrawn (w.alloc (.cells #[x0, x1, x2] 26)) d) os).cell? ⟨w.heap.size, 2, none⟩ = some x2 := fun _ _ _ _ _ => cell_regrown (by simp) _ _
  unfold tmv
  clear hp hz
  go_enter Yba.func17, Yba.ntmps17
  go_wp2
  refine wp_region_quiet_below (by kernel_rfl) (by kernel_rfl) ?_
  repeat (go_big_quiet_step (first | exact hA _ _ _ | exact hB _ _ _))
  refine wpQuiet_nil ?_
  intro _ hw'
  obtain ⟨⟨dq, osq⟩, hw''⟩ := hw'
  subst hw''
  go_wp2
  go_ret
  exact ⟨rfl, ((Below.refl _ _).alloc (Nat.le_refl _) _).trans ((below_regrown _ dq osq).mono (by simp))⟩

/-- has the account lapsed at n? -/
def lapB (n p : Int) : Bool := !(p == 0) && !decide (n < p)
theorem lapsed_any (b : Nat) (n p : Int) (w : World) (hp : Pend w b p) (hb : b < w.heap.size) :
    Calls Yba.prog 17 #[.pointer (some ⟨b, 0, none⟩), tmv n] w fun e w' => e = .returned (.bool (lapB n p)) ∧ Below w.heap.size w w' := by
  unfold lapB
  cases hz : (p == 0)
  · exact lapsed_pending b n p w hz hp hb
  · obtain rfl : p = 0 := by simpa using hz
    exact lapsed_active b n w hp hb
end Go.Proofs.Ybulkhhm.Fg
