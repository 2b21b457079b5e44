import Derived.Test.YbulkhioRows
import Derived.WalkKit
import Derived.ProofKit
import Derived.OpenShut
import Derived.ShutString
import Derived.WalkLawsBesides
import Derived.RowKit3
import Derived.BigQuiet
import Derived.Deep.QuietTactic
import Derived.SizedLaws
namespace Go.Proofs.Ybulkhio.lawS0404BString
open Go.ChangeShapes Go.WideShapes Go.ChangeAt Go.RowKit
open Go.ChangeMaps (open_string shut_string)
set_option linter.unusedVariables false      -- a walk need not use every 'w<i>' (that an integer argument fits its kind)

theorem own : ownKnob Yba.prog.godebug = none := by kernel_rfl

theorem size_list (a : ByteArray) : a.size = a.data.toList.length := rfl
theorem assertFE (a : Addr) (w : World) : (Instr.typeAssert (.iface 30 (.pointer (some a))) 23 30 true).run Yba.prog w = .ok (.tuple #[.pointer (some a), .bool true]) w := by kernel_rfl
theorem methErr (a : Addr) (w : World) : (method 156 24 (.pointer (some a)) "Error").run Yba.prog w = .ok (24, .pointer (some a)) w := by kernel_rfl
set_option maxRecDepth 100000 in
theorem walkA (a0 : ByteArray) (a1 : ByteArray) (a2 : ByteArray) (a3 : Bool) (a4 : ByteArray) (h : a1.toList.isEmpty = true) (w : World) :
    Calls Yba.prog 4 #[.string a0, .string a1, .string a2, .bool a3, .string a4] w fun e w' => e = .returned (.bool true) ∧ Grown w w' := by
  have hmf : ∀ (fn : Fn) (first cap : Array Value) (w : World), (Instr.makeFunc fn first cap).run Yba.prog w = .ok (.func fn first cap) w := fun _ _ _ _ => rfl
  have hta := assertFE
  go_enter Yba.func4, Yba.ntmps4
  go_wp2
  go_ret
  exact ⟨rfl, by repeat (first | exact Grown.refl _ | apply Grown.drew | apply Grown.alloc)⟩
set_option maxRecDepth 100000 in
theorem walkB (a0 : ByteArray) (a1 : ByteArray) (a2 : ByteArray) (a4 : ByteArray) (h : a1.toList.isEmpty = false) (w : World) :
    Calls Yba.prog 4 #[.string a0, .string a1, .string a2, .bool true, .string a4] w fun e w' => e = .returned (.bool true) ∧ Grown w w' := by
  have hmf : ∀ (fn : Fn) (first cap : Array Value) (w : World), (Instr.makeFunc fn first cap).run Yba.prog w = .ok (.func fn first cap) w := fun _ _ _ _ => rfl
  have hta := assertFE
  have hme := methErr
  go_enter Yba.func4, Yba.ntmps4
  go_wp2
  go_region
  go_wp2
  go_quiet (fail)
  go_wp2
  go_ret
  exact ⟨rfl, by repeat (first | exact Grown.refl _ | apply Grown.drew | apply Grown.alloc)⟩
set_option maxRecDepth 100000 in
theorem walkC (a0 : ByteArray) (a1 : ByteArray) (a2 : ByteArray) (a4 : ByteArray) (h : a1.toList.isEmpty = false) (hs : a2.size + a1.size ≤ 9223372036854775807) (w : World) :
    Calls Yba.prog 4 #[.string a0, .string a1, .string a2, .bool false, .string a4] w fun e w' => e = .returned (.bool true) ∧ Grown w w' := by
  have hmf : ∀ (fn : Fn) (first cap : Array Value) (w : World), (Instr.makeFunc fn first cap).run Yba.prog w = .ok (.func fn first cap) w := fun _ _ _ _ => rfl
  have hta := assertFE
  have hadd : ∀ w, (Op.stringOp .add a2 a1).run Yba.prog w = .ok (.string (a2 ++ a1)) w := fun w => run_string_add_sum w a2 a1 hs
  go_enter Yba.func4, Yba.ntmps4
  go_wp2
  go_ret
  exact ⟨by simp, by repeat (first | exact Grown.refl _ | apply Grown.drew | apply Grown.alloc)⟩

theorem walk (a0 : ByteArray) (a1 : ByteArray) (a2 : ByteArray) (a3 : Bool) (a4 : ByteArray) (w0 : a0.size ≤ maxLen) (w1 : a1.size ≤ maxLen) (w2 : a2.size ≤ maxLen) (w4 : a4.size ≤ maxLen) (hs : a2.size + a1.size ≤ 9223372036854775807) (w : World) :
    Calls Yba.prog 4 #[.string a0, .string a1, .string a2, .bool a3, .string a4] w fun e w' => e = .returned (.bool true) ∧ Grown w w' := by
  cases h : a1.toList.isEmpty
  · cases a3
    · exact walkC a0 a1 a2 a4 h hs w
    · exact walkB a0 a1 a2 a4 h w
  · exact walkA a0 a1 a2 a3 a4 h w

/-! ### THE ROW's STEP: WRITTEN OUT: LEAVE IT -/
set_option maxRecDepth 100000 in
theorem lifted (os : Os) (started : os.Started) (H : Type) (enc : TypeId × Value → H) :
    ReturnsInHanded {} Yba.checked os 4 .any (Rows.lawS0404BStringSpec.pre6 enc Yba.prog Yba.f4 Rows.lawS0404BStringRow.domain false) (Rows.lawS0404BStringSpec.post enc Yba.prog Yba.f4 false true false false) := by
  refine returnsInHanded_of_change_sized (C := Yba.checked) own started (by kernel_rfl) Yba.func4
    (ChangeSpec.witness6 (enc := enc) (C := Yba.checked) false ⟨#[], #[.string ByteArray.empty, .string ByteArray.empty, .string ByteArray.empty, .bool false, .string ByteArray.empty], []⟩ 8 (by kernel_rfl) (by kernel_rfl) (by kernel_rfl) (by kernel_rfl)) ?_
  intro W base args ds gs before hval0 hW hcnd hsz0 _
  have hsz : (DataW.weightsEach Yba.prog (Yba.f4.params.toList ++ Rows.lawS0404BStringSpec.plain.varTypes Yba.prog) (ds ++ gs)).all (· ≤ reachBytes) = true := hsz0
  clear hsz0
  have hval : ∀ (j : Nat) t v, Yba.f4.params[j]? = some t → args[j]? = some v → Value.okWide Yba.prog W .any base t v := hval0
  have hW' := hW
  obtain ⟨p, q, hA0, hV, rfl, hfz, hnd⟩ := hW
  have hA : DataW.TrodAll enc Yba.prog W 0 (fun _ => true) true Yba.f4.params.toList args.toList ds p := hA0
  rw [Yba.params4] at hA hval hsz
  obtain ⟨v0, vs0, d0, ds0, p0, q0, hargs, rfl, rfl, h0, r0⟩ := trodAll_cons hA
  obtain ⟨v1, vs1, d1, ds1, p1, q1, rfl, rfl, rfl, h1, r1⟩ := trodAll_cons r0
  obtain ⟨v2, vs2, d2, ds2, p2, q2, rfl, rfl, rfl, h2, r2⟩ := trodAll_cons r1
  obtain ⟨v3, vs3, d3, ds3, p3, q3, rfl, rfl, rfl, h3, r3⟩ := trodAll_cons r2
  obtain ⟨v4, vs4, d4, ds4, p4, q4, rfl, rfl, rfl, h4, r4⟩ := trodAll_cons r3
  obtain ⟨rfl, rfl, rfl⟩ := trodAll_nil r4
  obtain rfl : args = #[v0, v1, v2, v3, v4] := by cases args; simp_all
  obtain ⟨rfl, rfl⟩ := trodVars_none hV
  obtain ⟨a0, rfl, rfl, rfl, w0⟩ := open_string Yba.underlying9 (hval 0 9 v0 rfl rfl) h0
  obtain ⟨a1, rfl, rfl, rfl, w1⟩ := open_string Yba.underlying9 (hval 1 9 v1 rfl rfl) h1
  obtain ⟨a2, rfl, rfl, rfl, w2⟩ := open_string Yba.underlying9 (hval 2 9 v2 rfl rfl) h2
  obtain ⟨a3, rfl, rfl, rfl⟩ := open_bool Yba.underlying4 (hval 3 4 v3 rfl rfl) h3
  obtain ⟨a4, rfl, rfl, rfl, w4⟩ := open_string Yba.underlying9 (hval 4 9 v4 rfl rfl) h4
  clear hA0 hval0
  have hs : a2.size + a1.size ≤ 9223372036854775807 := by
    have s1 := sized_string hsz (j := 1) (t := 9) rfl rfl
    have s2 := sized_string hsz (j := 2) (t := 9) rfl rfl
    simp only [reachBytes] at s1 s2
    have e1 := size_list a1
    have e2 := size_list a2
    omega
  simp only [List.append_nil] at hW'
  refine (walk a0 a1 a2 a3 a4 w0 w1 w2 w4 hs W).mono fun e W' ⟨he, hg⟩ => ?_
  subst he
  exact ⟨_, rfl, post_of_same (pa := []) (pv := []) hW' (fun _ _ _ => (trodAll_cons_mk (shut_bool Yba.underlying4 _) trodAll_mk0)) (fun sp _ => (trodAll_cons_mk (shut_string Yba.underlying9 w0) (trodAll_cons_mk (shut_string Yba.underlying9 w1) (trodAll_cons_mk (shut_string Yba.underlying9 w2) (trodAll_cons_mk (shut_bool Yba.underlying4 _) (trodAll_cons_mk (shut_string Yba.underlying9 w4) trodAll_mk0)))))) (fun _ _ => rfl) rfl
    (hg.frame _) hg.2.1 (ok_one (by kernel_rfl) rfl (okWide_bool_mk Yba.underlying4 _))⟩

theorem over : Rows.lawS0404BStringRow.holds Yba.pinned (OpenSpec.ofChange Rows.lawS0404BStringSpec) :=
  OpenClaim.holds_of_wide 4 Yba.f4 rfl rfl rfl rfl rfl rfl rfl ⟨rfl, rfl, rfl, rfl, rfl⟩ rfl rfl rfl rfl rfl (by kernel_rfl) Yba.func4 (by kernel_rfl)
    (of_decide_eq_true (by kernel_rfl)) (by unfold Func.isWrapper; first | (rw [if_pos (by decide +kernel)]; kernel_rfl) | (rw [if_neg (by decide +kernel)]; exact ⟨rfl, rfl⟩))
    (fun os started H enc _ => lifted os started H enc)

/-- ████ THE STATEMENT ████ -/
theorem proved : Rows.LawS0404BStringSaid :=
  over
#print axioms proved
end Go.Proofs.Ybulkhio.lawS0404BString
