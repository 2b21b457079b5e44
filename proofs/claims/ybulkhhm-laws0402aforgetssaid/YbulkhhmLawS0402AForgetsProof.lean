import Derived.Test.YbulkhhmRows
import Derived.Test.YbulkhhmForgetsWalk
import Derived.WalkKit
import Derived.ProofKit
import Derived.OpenShut
import Derived.ShutString
import Derived.ChangeOld
import Derived.Below
import Derived.Deep.SlicePairs
namespace Go.Proofs.Ybulkhhm.lawS0402AForgets
open Go.ChangeShapes Go.WideShapes Go.ChangeAt Go.RowKit Go.Deep Go.Proofs.Ybulkhhm.Fg
set_option linter.unusedVariables false

theorem own : ownKnob Yba.prog.godebug = none := by kernel_rfl
theorem laidOut : laidOutB Yba.prog = true := by kernel_rfl
theorem cells45 : Yba.prog.cellsOf 45 = 2 := by kernel_rfl
theorem cells2 : Yba.prog.cellsOf 2 = 1 := by kernel_rfl
theorem cells9 : Yba.prog.cellsOf 9 = 1 := by kernel_rfl
theorem elem22 : Yba.prog.elem 22 = 45 := by kernel_rfl
theorem size45 (w : World) : (sizeOf 45).run Yba.prog w = .ok 2 w := by kernel_rfl

/-- what the walk is told of the entries -/
def IsEntries (w : World) (a : Option Addr) (len cap : Nat) : Prop :=
  ∃ (eb eo : Nat) (p : Nat → Int) (iss : Nat → ByteArray), (0 < len → eb < w.heap.size) ∧
    (∀ i, i < len → ∀ w', (Instr.indexAt 22 (.slice a len cap) (.int .i64 (i : Int))).run Yba.prog w' = .ok (.pointer (some ⟨eb, eo + i * 2, none⟩)) w') ∧
    (∀ i, i < len → w.cell? ⟨eb, eo + i * 2, none⟩ = some (.int .i64 (p i)) ∧ w.cell? ⟨eb, eo + i * 2 + 1, none⟩ = some (.string (iss i)) ∧ -9223372036854775808 ≤ p i ∧ p i ≤ 9223372036854775807)

theorem index_at (eb eo len cap i : Nat) (hi : i < len) (w : World) : (Instr.indexAt 22 (.slice (some ⟨eb, eo, none⟩) len cap) (.int .i64 (i : Int))).run Yba.prog w = .ok (.pointer (some ⟨eb, eo + i * 2, none⟩)) w := by
  rw [run_indexAt_slice w 22 ⟨eb, eo, none⟩ len cap .i64 i (by rw [elem22]; exact Yba.underlying22), if_pos ⟨by omega, by omega⟩, elem22, size45]
  simp [Result.andThen, Addr.add]

theorem block_lt {w : World} {b o : Nat} {v : Value} (h : w.cell? ⟨b, o, none⟩ = some v) : b < w.heap.size := by
  rcases Nat.lt_or_ge b w.heap.size with h1 | h1
  · exact h1
  · simp [World.cell?, Array.getElem?_eq_none h1] at h

theorem entries_of {H : Type} {enc : TypeId × Value → H} {W : World} {base : Nat} {spare : Nat → Bool} {held : Bool} {fuel : Nat} {a : Option Addr} {len cap : Nat} {x : DataW H × List MemPlace}
    (hf : DataW.trod enc Yba.prog W base spare held fuel 22 [.slice a len cap] = some x) : IsEntries W a len cap := by
  rcases open_slice_pairs Yba.underlying22 Yba.underlying45 cells45 rfl rfl cells2 cells9 hf with ⟨hcs, _⟩ | ⟨ad, l, c, m, n, V0, V1, D0, D1, P0, P1, hcs, _, hl, _, hm, _, hx⟩
  · simp at hcs
    obtain ⟨rfl, rfl, rfl⟩ := hcs
    exact ⟨0, 0, fun _ => 0, fun _ => ByteArray.empty, fun h => absurd h (by omega), fun i hi => absurd hi (by omega), fun i hi => absurd hi (by omega)⟩
  · simp at hcs
    obtain ⟨rfl, rfl, rfl⟩ := hcs
    have hlm : len ≤ m := by rw [hm]; split <;> omega
    rcases Nat.eq_zero_or_pos len with h0 | h0
    · subst h0
      exact ⟨0, 0, fun _ => 0, fun _ => ByteArray.empty, fun h => absurd h (by omega), fun i hi => absurd hi (by omega), fun i hi => absurd hi (by omega)⟩
    · obtain ⟨eb, eo, spot⟩ := ad
      have hspot : spot = none := by simpa [Addr.add] using World.cell?_spot (hx 0 (by omega)).1
      subst hspot
      have each : ∀ i, i < len → ∃ q : Int × ByteArray, W.cell? ⟨eb, eo + i * 2, none⟩ = some (.int .i64 q.1) ∧ W.cell? ⟨eb, eo + i * 2 + 1, none⟩ = some (.string q.2) ∧ -9223372036854775808 ≤ q.1 ∧ q.1 ≤ 9223372036854775807 := by
        intro i hi
        obtain ⟨h1, h2, h3, h4⟩ := hx i (by omega)
        obtain ⟨z, e1, _, wz⟩ := DataW.trod_int Yba.underlying2 h3
        obtain ⟨s, e2, _, _⟩ := DataW.trod_string Yba.underlying9 h4
        simp at e1 e2
        rw [e1] at h1
        rw [e2] at h2
        have hb := bounds_i64 wz
        rw [add_plain] at h1 h2
        exact ⟨(z, s), h1, by rw [Nat.add_assoc]; exact h2, hb.1, hb.2⟩
      obtain ⟨q, hq⟩ := choose_lt each
      exact ⟨eb, eo, fun i => (q i).1, fun i => (q i).2, fun _ => block_lt (hq 0 h0).1, fun i hi w' => index_at eb eo len cap i hi w', hq⟩

set_option maxRecDepth 100000 in
theorem walk_long (a : Option Addr) (len cap : Nat) (now : Int) (w : World) (h : 1024 < len) : Calls Yba.prog 3 #[.slice a len cap, .int .i64 now] w fun e w' => e = .returned (.bool true) ∧ Below w.heap.size w w' := by
  have h' : (1024 : Int) < (len : Int) := by omega
  go_enter Yba.func3, Yba.ntmps3
  go_wp2
  go_ret
  exact ⟨rfl, Below.refl _ _⟩

theorem walk (a : Option Addr) (len cap : Nat) (now : Int) (w : World) (w1 : (Lit.int .i64 now).wf = true) (w0 : IsEntries w a len cap) :
    Calls Yba.prog 3 #[.slice a len cap, .int .i64 now] w fun e w' => e = .returned (.bool true) ∧ Below w.heap.size w w' := by
  by_cases h : 1024 < len
  · exact walk_long a len cap now w h
  · obtain ⟨eb, eo, p, iss, heb, hix, hp⟩ := w0
    have hb := bounds_i64 w1
    exact law_walk a len cap now eb eo p iss w (by omega) hb.1 hb.2 heb hix hp

/-! ### THE ROW's STEP -/
set_option maxRecDepth 100000 in
theorem lifted (os : Os) (started : os.Started) (H : Type) (enc : TypeId × Value → H) :
    ReturnsInHanded {} Yba.checked os 3 .any (Rows.lawS0402AForgetsSpec.pre6 enc Yba.prog Yba.f3 Rows.lawS0402AForgetsRow.domain false) (Rows.lawS0402AForgetsSpec.post enc Yba.prog Yba.f3 false true false false) := by
  refine returnsInHanded_of_change (C := Yba.checked) own started (by kernel_rfl) Yba.func3
    (ChangeSpec.witness6 (enc := enc) (C := Yba.checked) false ⟨#[], #[.slice none 0 0, .int .i64 0], []⟩ 8 (by kernel_rfl) (by kernel_rfl) (by kernel_rfl) (by kernel_rfl)) ?_
  intro W base args ds gs before hval0 hW hcnd _
  have hval : ∀ (j : Nat) t v, Yba.f3.params[j]? = some t → args[j]? = some v → Value.okWide Yba.prog W .any base t v := hval0
  have hW' := hW
  obtain ⟨p, q, hA0, hV, rfl, hfz, hnd⟩ := hW
  have hA : DataW.TrodAll enc Yba.prog W 0 (fun _ => true) true Yba.f3.params.toList args.toList ds p := hA0
  rw [Yba.params3] at hA hval
  obtain ⟨v0, vs0, d0, ds0, p0, q0, hargs, rfl, rfl, h0, r0⟩ := trodAll_cons hA
  obtain ⟨v1, vs1, d1, ds1, p1, q1, rfl, rfl, rfl, h1, r1⟩ := trodAll_cons r0
  obtain ⟨rfl, rfl, rfl⟩ := trodAll_nil r1
  obtain rfl : args = #[v0, v1] := by cases args; simp_all
  obtain ⟨rfl, rfl⟩ := trodVars_none hV
  obtain ⟨a1, rfl, rfl, rfl, w1⟩ := open_int Yba.underlying2 (hval 1 2 v1 rfl rfl) h1
  obtain ⟨a0, len0, cap0, rfl⟩ := okWide_slice Yba.underlying22 (hval 0 22 v0 rfl rfl)
  have k0 := h0
  have lt0 : ∀ x ∈ p0, x.block < W.heap.size := by obtain ⟨m, hm⟩ := k0; exact DataW.trod_lt m _ _ _ hm
  have w0 : IsEntries W a0 len0 cap0 := by
    obtain ⟨fuel, hf⟩ := h0
    exact entries_of (by simpa [Value.cells] using hf)
  clear hA0 hval0
  refine (walk a0 len0 cap0 a1 W w1 w0).mono fun e W' ⟨he, bel⟩ => ?_
  subst he
  exact ⟨_, rfl, _, _, _, [], _, [], hW', trodAll_mk1 (shut_bool Yba.underlying4 _), (trodAll_cons_mk (Below.trod laidOut (by kernel_rfl) (of_decide_eq_true (by kernel_rfl)) k0 bel lt0) (trodAll_cons_mk (shut_int Yba.underlying2 w1) trodAll_mk0)), rfl, bel.frame _, fun h => by cases h⟩

theorem over : Rows.lawS0402AForgetsRow.holds Yba.pinned (OpenSpec.ofChange Rows.lawS0402AForgetsSpec) :=
  OpenClaim.holds_of_wide 3 Yba.f3 rfl rfl rfl rfl rfl rfl rfl ⟨rfl, rfl, rfl, rfl, rfl⟩ rfl rfl rfl rfl rfl (by kernel_rfl) Yba.func3 (by kernel_rfl)
    (of_decide_eq_true (by kernel_rfl)) (by unfold Func.isWrapper; first | (rw [if_pos (by decide +kernel)]; kernel_rfl) | (rw [if_neg (by decide +kernel)]; exact ⟨rfl, rfl⟩))
    (fun os started H enc _ => lifted os started H enc)

/-- THE STATEMENT -/
theorem proved : Rows.LawS0402AForgetsSaid := over
#print axioms proved
end Go.Proofs.Ybulkhhm.lawS0402AForgets
