/-
  A PROOF OF 'Rows.LawS0402BDoublingSaid' ('example.com/counterfoil/counterfoil/accounts.LawS0402BDoubling'), WRITTEN BY PROGRAM (proof-skeleton.mjs) off the guide's own print for that function. Not trusted: Lean checks it.
-/
import Derived.Test.YbulkhhmRows
import Derived.Test.YbulkhhmWait
import Derived.WalkKit
import Derived.ProofKit
import Derived.OpenShut
import Derived.ShutString
namespace Go.Proofs.Ybulkhhm.lawS0402BDoubling
open Go.ChangeShapes Go.WideShapes Go.ChangeAt Go.RowKit
open Go.ChangeMaps (open_string shut_string)
open Go.Proofs.Ybulkhhm.Wait
set_option linter.unusedVariables false      -- a walk need not use every 'w<i>' (that an integer argument fits its kind)

theorem own : ownKnob Yba.prog.godebug = none := by kernel_rfl

/-! ### STEP 1: THE WALK: the Go text returns true. 'Grown w w'': the world has at most new blocks (Derived/RowKit3.lean). Part the cases AHEAD of 'go_enter' where a test parts the walk; take each callee by a contract of your own. -/
set_option maxRecDepth 100000 in
theorem walk (a0 : Int) (w0 : (Lit.int .u8 a0).wf = true) (w : World) :
    Calls Yba.prog 6 #[.int .u8 a0] w fun e w' => e = .returned (.bool true) ∧ Grown w w' := by
  have hb := bounds_u8 w0
  have g1 : ¬ wv (a0 % 32 + 1) < wv (a0 % 32) := by have := wv_mono (a0 % 32); omega
  have g2 : ¬ 14400000000000 < wv (a0 % 32 + 1) := by have := wv_bound (a0 % 32 + 1); omega
  have g3 : ¬ wv (a0 % 32) < 0 := by have := wv_bound (a0 % 32); omega
  rcases Int.lt_trichotomy (a0 % 32) 4 with h | h | h
  · have e1 : (wv (a0 % 32) == 0) = true := by rw [wv_few (by omega)]; rfl
    have e2 : (wv (a0 % 32 + 1) == 0) = true := by rw [wv_few (by omega)]; rfl
    go_enter Yba.func6, Yba.ntmps6
    go_wp2_with (go_at_call 11; refine (wait_any _ (by omega) (by omega) _).mono ?_; rintro e w' ⟨rfl, rfl⟩)
    go_ret
    exact ⟨rfl, Grown.refl _⟩
  · have e0 : (a0 % 32 == 4) = true := by simp [h]
    have e1 : (wv (a0 % 32) == 0) = true := by rw [wv_few (by omega)]; rfl
    have e2 : (wv (a0 % 32 + 1) == 1000000000) = true := by rw [h]; show (wv 5 == 1000000000) = true; rw [wv_five]; rfl
    have e3 : ¬ a0 % 32 < 4 := by omega
    clear h
    go_enter Yba.func6, Yba.ntmps6
    go_wp2_with (go_at_call 11; refine (wait_any _ (by omega) (by omega) _).mono ?_; rintro e w' ⟨rfl, rfl⟩)
    go_ret
    exact ⟨rfl, Grown.refl _⟩
  · have e0 : (a0 % 32 == 4) = false := by simp; omega
    have e3 : ¬ a0 % 32 < 4 := by omega
    have e4 : wv (a0 % 32) ≤ 14400000000000 := (wv_bound _).2
    have HN : Hid (wv (a0 % 32 + 1) = if 2 * wv (a0 % 32) ≤ 14400000000000 then 2 * wv (a0 % 32) else 14400000000000) := wv_next (by omega)
    clear h
    go_enter Yba.func6, Yba.ntmps6
    go_wp2_with (go_at_call 11; refine (wait_any _ (by omega) (by omega) _).mono ?_; rintro e w' ⟨rfl, rfl⟩)
    all_goals
      go_ret
      refine ⟨?_, Grown.refl _⟩
      rw [HN.out]
      first | (rw [if_pos (by omega)]; simp) | (rw [if_neg (by omega)]; simp)

/-! ### THE ROW's STEP: WRITTEN OUT: LEAVE IT -/
set_option maxRecDepth 100000 in
theorem lifted (os : Os) (started : os.Started) (H : Type) (enc : TypeId × Value → H) :
    ReturnsInHanded {} Yba.checked os 6 .any (Rows.lawS0402BDoublingSpec.pre6 enc Yba.prog Yba.f6 Rows.lawS0402BDoublingRow.domain false) (Rows.lawS0402BDoublingSpec.post enc Yba.prog Yba.f6 false true false false) := by
  refine returnsInHanded_of_change (C := Yba.checked) own started (by kernel_rfl) Yba.func6
    (ChangeSpec.witness6 (enc := enc) (C := Yba.checked) false ⟨#[], #[.int .u8 0], []⟩ 8 (by kernel_rfl) (by kernel_rfl) (by kernel_rfl) (by kernel_rfl)) ?_
  intro W base args ds gs before hval0 hW hcnd _
  have hval : ∀ (j : Nat) t v, Yba.f6.params[j]? = some t → args[j]? = some v → Value.okWide Yba.prog W .any base t v := hval0
  have hW' := hW
  obtain ⟨p, q, hA0, hV, rfl, hfz, hnd⟩ := hW
  have hA : DataW.TrodAll enc Yba.prog W 0 (fun _ => true) true Yba.f6.params.toList args.toList ds p := hA0
  rw [Yba.params6] at hA hval
  obtain ⟨v0, vs0, d0, ds0, p0, q0, hargs, rfl, rfl, h0, r0⟩ := trodAll_cons hA
  obtain ⟨rfl, rfl, rfl⟩ := trodAll_nil r0
  obtain rfl : args = #[v0] := by cases args; simp_all
  obtain ⟨rfl, rfl⟩ := trodVars_none hV
  obtain ⟨a0, rfl, rfl, rfl, w0⟩ := open_int Yba.underlying5 (hval 0 5 v0 rfl rfl) h0
  clear hA0 hval0
  simp only [List.append_nil] at hW'
  refine (walk a0 w0 W).mono fun e W' ⟨he, hg⟩ => ?_
  subst he
  exact ⟨_, rfl, post_of_same (pa := []) (pv := []) hW' (fun _ _ _ => (trodAll_cons_mk (shut_bool Yba.underlying4 _) trodAll_mk0)) (fun sp _ => (trodAll_cons_mk (shut_int Yba.underlying5 w0) trodAll_mk0)) (fun _ _ => rfl) rfl
    (hg.frame _) hg.2.1 (ok_one (by kernel_rfl) rfl (okWide_bool_mk Yba.underlying4 _))⟩

theorem over : Rows.lawS0402BDoublingRow.holds Yba.pinned (OpenSpec.ofChange Rows.lawS0402BDoublingSpec) :=
  OpenClaim.holds_of_wide 6 Yba.f6 rfl rfl rfl rfl rfl rfl rfl ⟨rfl, rfl, rfl, rfl, rfl⟩ rfl rfl rfl rfl rfl (by kernel_rfl) Yba.func6 (by kernel_rfl)
    (of_decide_eq_true (by kernel_rfl)) (by unfold Func.isWrapper; first | (rw [if_pos (by decide +kernel)]; kernel_rfl) | (rw [if_neg (by decide +kernel)]; exact ⟨rfl, rfl⟩))
    (fun os started H enc _ => lifted os started H enc)

/-- ████ THE STATEMENT ████ -/
theorem proved : Rows.LawS0402BDoublingSaid :=
  over
#print axioms proved
end Go.Proofs.Ybulkhhm.lawS0402BDoubling
