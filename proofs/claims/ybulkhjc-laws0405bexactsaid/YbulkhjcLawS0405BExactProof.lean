import Derived.Test.YbulkhjcRows
import Derived.Test.YbulkhjcBxA
import Derived.WalkKit
import Derived.ProofKit
import Derived.OpenShut
import Derived.ShutString
import Derived.ChangeOld
import Derived.Below
import Derived.Deep.SlicePairs
namespace Go.Proofs.Ybulkhjc.lawS0405BExact
open Go.ChangeShapes Go.WideShapes Go.ChangeAt Go.RowKit Go.Deep Go.Proofs.Ybulkhjc.Bx
set_option linter.unusedVariables false

theorem own : ownKnob Yba.prog.godebug = none := by kernel_rfl
theorem laidOut : laidOutB Yba.prog = true := by kernel_rfl
theorem cells55 : Yba.prog.cellsOf 55 = 2 := by kernel_rfl
theorem cells5 : Yba.prog.cellsOf 5 = 1 := by kernel_rfl
theorem elem49 : Yba.prog.elem 49 = 55 := by kernel_rfl
theorem size55 (w : World) : (sizeOf 55).run Yba.prog w = .ok 2 w := by kernel_rfl

theorem block_lt {w : World} {b o : Nat} {v : Value} (h : w.cell? ⟨b, o, none⟩ = some v) : b < w.heap.size := by
  rcases Nat.lt_or_ge b w.heap.size with h1 | h1
  · exact h1
  · simp [World.cell?, Array.getElem?_eq_none h1] at h

/-- what the walk is told of the designations -/
def IsPairs (w : World) (a : Option Addr) (len cap : Nat) : Prop :=
  ∃ (eb eo : Nat) (p : Nat → Nat × Nat), (0 < len → eb < w.heap.size) ∧ (∀ i, (p i).1 < 256) ∧ (∀ i, (p i).2 < 256) ∧
    (∀ i, i < len → ∀ w', (Instr.indexAt 49 (.slice a len cap) (.int .i64 (i : Int))).run Yba.prog w' = .ok (.pointer (some ⟨eb, eo + i * 2, none⟩)) w') ∧
    (∀ i, i < len → w.cell? ⟨eb, eo + i * 2, none⟩ = some (.int .u8 (p i).1) ∧ w.cell? ⟨eb, eo + i * 2 + 1, none⟩ = some (.int .u8 (p i).2))

theorem index_at (eb eo len cap i : Nat) (hi : i < len) (w : World) : (Instr.indexAt 49 (.slice (some ⟨eb, eo, none⟩) len cap) (.int .i64 (i : Int))).run Yba.prog w = .ok (.pointer (some ⟨eb, eo + i * 2, none⟩)) w := by
  rw [run_indexAt_slice w 49 ⟨eb, eo, none⟩ len cap .i64 i (by rw [elem49]; exact Yba.underlying49), if_pos ⟨by omega, by omega⟩, elem49, size55]
  simp [Result.andThen, Addr.add]

theorem pairs_of {H : Type} {enc : TypeId × Value → H} {W : World} {base : Nat} {spare : Nat → Bool} {held : Bool} {fuel : Nat} {a : Option Addr} {len cap : Nat} {x : DataW H × List MemPlace}
    (hf : DataW.trod enc Yba.prog W base spare held fuel 49 [.slice a len cap] = some x) : IsPairs W a len cap := by
  have none0 : len = 0 → IsPairs W a len cap := fun h => by
    subst h
    exact ⟨0, 0, fun _ => (0, 0), fun h => absurd h (by omega), fun _ => Nat.zero_lt_succ _, fun _ => Nat.zero_lt_succ _, fun i hi => absurd hi (by omega), fun i hi => absurd hi (by omega)⟩
  rcases open_slice_pairs Yba.underlying49 Yba.underlying55 cells55 rfl rfl cells5 cells5 hf with ⟨hcs, _⟩ | ⟨ad, l, c, m, n, V0, V1, D0, D1, P0, P1, hcs, _, hl, _, hm, _, hx⟩
  · simp at hcs
    exact none0 hcs.2.1
  · simp at hcs
    obtain ⟨rfl, rfl, rfl⟩ := hcs
    have hlm : len ≤ m := by rw [hm]; split <;> omega
    rcases Nat.eq_zero_or_pos len with h0 | h0
    · exact none0 h0
    · obtain ⟨eb, eo, spot⟩ := ad
      have hspot : spot = none := by simpa [Addr.add] using World.cell?_spot (hx 0 (by omega)).1
      subst hspot
      have each : ∀ i, i < len → ∃ q : Nat × Nat, W.cell? ⟨eb, eo + i * 2, none⟩ = some (.int .u8 q.1) ∧ W.cell? ⟨eb, eo + i * 2 + 1, none⟩ = some (.int .u8 q.2) ∧ q.1 < 256 ∧ q.2 < 256 := by
        intro i hi
        obtain ⟨h1, h2, h3, h4⟩ := hx i (by omega)
        obtain ⟨z, e1, _, wz⟩ := DataW.trod_int Yba.underlying5 h3
        obtain ⟨y, e2, _, wy⟩ := DataW.trod_int Yba.underlying5 h4
        simp at e1 e2
        rw [e1] at h1
        rw [e2] at h2
        have hb := bounds_u8 wz
        have hb2 := bounds_u8 wy
        rw [add_plain] at h1 h2
        refine ⟨(z.toNat, y.toNat), ?_, ?_, by show z.toNat < 256; omega, by show y.toNat < 256; omega⟩
        · rw [h1]; show some (Value.int .u8 z) = some (.int .u8 (z.toNat : Int)); rw [Int.toNat_of_nonneg hb.1]
        · rw [Nat.add_assoc, h2]; show some (Value.int .u8 y) = some (.int .u8 (y.toNat : Int)); rw [Int.toNat_of_nonneg hb2.1]
      obtain ⟨q, hq⟩ := choose_lt each
      refine ⟨eb, eo, fun i => if i < len then q i else (0, 0), fun _ => block_lt (hq 0 h0).1, fun i => ?_, fun i => ?_, fun i hi w' => index_at eb eo len cap i hi w', fun i hi => ?_⟩
      · show (if i < len then q i else (0, 0)).1 < 256
        split
        · rename_i h; exact (hq i h).2.2.1
        · decide
      · show (if i < len then q i else (0, 0)).2 < 256
        split
        · rename_i h; exact (hq i h).2.2.2
        · decide
      · simp only [if_pos hi]
        exact ⟨(hq i hi).1, (hq i hi).2.1⟩

/-- WHAT THE WALK IS TOLD OF A SLICE OF INTEGERS THAT CAME IN: it is nil; or it leads to a row of 'cap' cells, the numbers 'zs' (the first 'len' are its elements, the rest its spare room), each fitting its kind. -/
def IsRow (k : IntKind) (w : World) (a : Option Addr) (len cap : Nat) (zs : List Int) : Prop :=
  (a = none ∧ len = 0 ∧ cap = 0 ∧ zs = []) ∨
  ∃ x, a = some x ∧ len ≤ cap ∧ cap ≤ maxLen ∧ zs.length = cap ∧ (∀ i, i < zs.length → w.cell? (x.add i) = some (.int k (zs.getD i 0))) ∧ ∀ n ∈ zs, (Lit.int k n).wf = true

theorem row_of {k : IntKind} {M : Nat} (hM : 0 < M) (hk : ∀ a, (Lit.int k a).wf = true → 0 ≤ a ∧ a < M) {w : World} {a : Option Addr} {len cap : Nat} {zs : List Int} (h : IsRow k w a len cap zs) :
    ∃ z : Nat → Nat, len ≤ 9223372036854775807 ∧ (∀ i, z i < M) ∧ (0 < len → ∃ b o, a = some ⟨b, o, none⟩ ∧ b < w.heap.size ∧ ∀ i, i < len → w.cell? ⟨b, o + i, none⟩ = some (.int k (z i))) := by
  rcases h with ⟨rfl, rfl, rfl, rfl⟩ | ⟨x, rfl, hl, hc, hz, hcell, hwf⟩
  · exact ⟨fun _ => 0, by omega, fun _ => hM, fun h => absurd h (by omega)⟩
  · have hb : ∀ i, i < len → 0 ≤ zs.getD i 0 ∧ zs.getD i 0 < M := fun i hi => by
      have hi' : i < zs.length := by omega
      have e : zs.getD i 0 = zs[i] := by simp [hi']
      rw [e]; exact hk _ (hwf _ (List.getElem_mem hi'))
    refine ⟨fun i => if i < len then (zs.getD i 0).toNat else 0, by unfold maxLen at hc; omega, fun i => ?_, fun h0 => ?_⟩
    · show (if i < len then (zs.getD i 0).toNat else 0) < M
      split
      · rename_i h; have := hb i h; omega
      · exact hM
    · obtain ⟨b, o, spot⟩ := x
      have hspot : spot = none := by simpa [Addr.add] using World.cell?_spot (hcell 0 (by omega))
      subst hspot
      have hc0 := hcell 0 (by omega)
      rw [add_plain] at hc0
      refine ⟨b, o, rfl, block_lt hc0, fun i hi => ?_⟩
      have hci := hcell i (by omega)
      rw [add_plain] at hci
      rw [hci]
      show some (Value.int k (zs.getD i 0)) = some (.int k ((if i < len then (zs.getD i 0).toNat else 0 : Nat) : Int))
      rw [if_pos hi, Int.toNat_of_nonneg (hb i hi).1]

theorem nat8 {a : Int} (h : (Lit.int .u8 a).wf = true) : ∃ n : Nat, a = (n : Int) ∧ n < 256 := by
  have hb := bounds_u8 h
  exact ⟨a.toNat, by omega, by omega⟩

set_option maxRecDepth 100000 in
theorem walk_long (v0 v1 v2 v3 v4 v5 v6 v7 : Value) (a : Option Addr) (len cap : Nat) (w : World) (h : 1024 < len) : Calls Yba.prog 5 #[v0, v1, v2, v3, v4, v5, v6, v7, .slice a len cap] w fun e w' => e = .returned (.bool true) ∧ Below w.heap.size w w' := by
  have h' : (1024 : Int) < (len : Int) := by omega
  go_enter Yba.func5, Yba.ntmps5
  go_wp2
  go_ret
  exact ⟨rfl, Below.refl _ _⟩

theorem walk (a0 a1 a2 a3 a4 : Int) (a5 : Option Addr) (len5 cap5 : Nat) (z5 : List Int) (a6 : Option Addr) (len6 cap6 : Nat) (z6 : List Int) (a7 : Option Addr) (len7 cap7 : Nat) (z7 : List Int) (a8 : Option Addr) (len8 cap8 : Nat) (w : World)
    (w0 : (Lit.int .u8 a0).wf = true) (w1 : (Lit.int .u8 a1).wf = true) (w2 : (Lit.int .u8 a2).wf = true) (w3 : (Lit.int .u8 a3).wf = true) (w4 : (Lit.int .u8 a4).wf = true)
    (w5 : IsRow .u16 w a5 len5 cap5 z5) (w6 : IsRow .u16 w a6 len6 cap6 z6) (w7 : IsRow .u8 w a7 len7 cap7 z7) (w8 : IsPairs w a8 len8 cap8) :
    Calls Yba.prog 5 #[.int .u8 a0, .int .u8 a1, .int .u8 a2, .int .u8 a3, .int .u8 a4, .slice a5 len5 cap5, .slice a6 len6 cap6, .slice a7 len7 cap7, .slice a8 len8 cap8] w fun e w' => e = .returned (.bool true) ∧ Below w.heap.size w w' := by
  by_cases hbig : 1024 < len8
  · exact walk_long _ _ _ _ _ _ _ _ a8 len8 cap8 w hbig
  · obtain ⟨nr, rfl, h0⟩ := nat8 w0
    obtain ⟨tr, rfl, h1⟩ := nat8 w1
    obtain ⟨sr, rfl, h2⟩ := nat8 w2
    obtain ⟨jr, rfl, h3⟩ := nat8 w3
    obtain ⟨br, rfl, h4⟩ := nat8 w4
    obtain ⟨hz, hR5⟩ := row_of (M := 65536) (by decide) (fun a h => by have := bounds_u16 h; omega) w5
    obtain ⟨rz, hR6⟩ := row_of (M := 65536) (by decide) (fun a h => by have := bounds_u16 h; omega) w6
    obtain ⟨wz, hR7⟩ := row_of (M := 256) (by decide) (fun a h => by have := bounds_u8 h; omega) w7
    obtain ⟨eb, eo, p, heb, hp1, hp2, hix, hcell⟩ := w8
    exact law_walk nr tr sr jr br h0 h1 h2 h3 h4 a5 len5 cap5 hz a6 len6 cap6 rz a7 len7 cap7 wz a8 len8 cap8 eb eo (fun i => (p i).1) (fun i => (p i).2) w (by omega) hR5 hR6 hR7 heb hix hcell hp1 hp2

/-! ### THE ROW's STEP -/
set_option maxRecDepth 100000 in
theorem lifted (os : Os) (started : os.Started) (H : Type) (enc : TypeId × Value → H) :
    ReturnsInHanded {} Yba.checked os 5 .any (Rows.lawS0405BExactSpec.pre6 enc Yba.prog Yba.f5 Rows.lawS0405BExactRow.domain false) (Rows.lawS0405BExactSpec.post enc Yba.prog Yba.f5 false true false false) := by
  refine returnsInHanded_of_change (C := Yba.checked) own started (by kernel_rfl) Yba.func5
    (ChangeSpec.witness6 (enc := enc) (C := Yba.checked) false ⟨#[], #[.int .u8 0, .int .u8 0, .int .u8 0, .int .u8 0, .int .u8 0, .slice none 0 0, .slice none 0 0, .slice none 0 0, .slice none 0 0], []⟩ 8 (by kernel_rfl) (by kernel_rfl) (by kernel_rfl) (by kernel_rfl)) ?_
  intro W base args ds gs before hval0 hW hcnd _
  have hval : ∀ (j : Nat) t v, Yba.f5.params[j]? = some t → args[j]? = some v → Value.okWide Yba.prog W .any base t v := hval0
  have hW' := hW
  obtain ⟨p, q, hA0, hV, rfl, hfz, hnd⟩ := hW
  have hA : DataW.TrodAll enc Yba.prog W 0 (fun _ => true) true Yba.f5.params.toList args.toList ds p := hA0
  rw [Yba.params5] at hA hval
  obtain ⟨v0, vs0, d0, ds0, p0, q0, hargs, rfl, rfl, h0, r0⟩ := trodAll_cons hA
  obtain ⟨v1, vs1, d1, ds1, p1, q1, rfl, rfl, rfl, h1, r1⟩ := trodAll_cons r0
  obtain ⟨v2, vs2, d2, ds2, p2, q2, rfl, rfl, rfl, h2, r2⟩ := trodAll_cons r1
  obtain ⟨v3, vs3, d3, ds3, p3, q3, rfl, rfl, rfl, h3, r3⟩ := trodAll_cons r2
  obtain ⟨v4, vs4, d4, ds4, p4, q4, rfl, rfl, rfl, h4, r4⟩ := trodAll_cons r3
  obtain ⟨v5, vs5, d5, ds5, p5, q5, rfl, rfl, rfl, h5, r5⟩ := trodAll_cons r4
  obtain ⟨v6, vs6, d6, ds6, p6, q6, rfl, rfl, rfl, h6, r6⟩ := trodAll_cons r5
  obtain ⟨v7, vs7, d7, ds7, p7, q7, rfl, rfl, rfl, h7, r7⟩ := trodAll_cons r6
  obtain ⟨v8, vs8, d8, ds8, p8, q8, rfl, rfl, rfl, h8, r8⟩ := trodAll_cons r7
  obtain ⟨rfl, rfl, rfl⟩ := trodAll_nil r8
  obtain rfl : args = #[v0, v1, v2, v3, v4, v5, v6, v7, v8] := by cases args; simp_all
  obtain ⟨rfl, rfl⟩ := trodVars_none hV
  obtain ⟨a0, rfl, rfl, rfl, w0⟩ := open_int Yba.underlying5 (hval 0 5 v0 rfl rfl) h0
  obtain ⟨a1, rfl, rfl, rfl, w1⟩ := open_int Yba.underlying5 (hval 1 5 v1 rfl rfl) h1
  obtain ⟨a2, rfl, rfl, rfl, w2⟩ := open_int Yba.underlying5 (hval 2 5 v2 rfl rfl) h2
  obtain ⟨a3, rfl, rfl, rfl, w3⟩ := open_int Yba.underlying5 (hval 3 5 v3 rfl rfl) h3
  obtain ⟨a4, rfl, rfl, rfl, w4⟩ := open_int Yba.underlying5 (hval 4 5 v4 rfl rfl) h4
  obtain ⟨a5, len5, cap5, rfl⟩ := okWide_slice Yba.underlying48 (hval 5 48 v5 rfl rfl)
  obtain ⟨a6, len6, cap6, rfl⟩ := okWide_slice Yba.underlying48 (hval 6 48 v6 rfl rfl)
  obtain ⟨a7, len7, cap7, rfl⟩ := okWide_slice Yba.underlying23 (hval 7 23 v7 rfl rfl)
  obtain ⟨a8, len8, cap8, rfl⟩ := okWide_slice Yba.underlying49 (hval 8 49 v8 rfl rfl)
  have k5 := h5
  have lt5 : ∀ x ∈ p5, x.block < W.heap.size := by obtain ⟨m, hm⟩ := k5; exact DataW.trod_lt m _ _ _ hm
  have k6 := h6
  have lt6 : ∀ x ∈ p6, x.block < W.heap.size := by obtain ⟨m, hm⟩ := k6; exact DataW.trod_lt m _ _ _ hm
  have k7 := h7
  have lt7 : ∀ x ∈ p7, x.block < W.heap.size := by obtain ⟨m, hm⟩ := k7; exact DataW.trod_lt m _ _ _ hm
  have k8 := h8
  have lt8 : ∀ x ∈ p8, x.block < W.heap.size := by obtain ⟨m, hm⟩ := k8; exact DataW.trod_lt m _ _ _ hm
  obtain ⟨z5, w5⟩ : ∃ zs, IsRow .u16 W a5 len5 cap5 zs := by
    obtain ⟨fuel, hf⟩ := h5
    rcases open_ints Yba.underlying48 Yba.underlying59 (by kernel_rfl) hf with ⟨hcs, _⟩ | ⟨x, l, c, zs, hcs, _, hl, hm, hz, _, hcell, hwz⟩
    · simp [Value.cells] at hcs
      obtain ⟨rfl, rfl, rfl⟩ := hcs
      exact ⟨[], .inl ⟨rfl, rfl, rfl, rfl⟩⟩
    · simp [Value.cells] at hcs
      obtain ⟨rfl, rfl, rfl⟩ := hcs
      exact ⟨zs, .inr ⟨_, rfl, hl, hm, by simpa using hz, hcell, hwz⟩⟩
  obtain ⟨z6, w6⟩ : ∃ zs, IsRow .u16 W a6 len6 cap6 zs := by
    obtain ⟨fuel, hf⟩ := h6
    rcases open_ints Yba.underlying48 Yba.underlying59 (by kernel_rfl) hf with ⟨hcs, _⟩ | ⟨x, l, c, zs, hcs, _, hl, hm, hz, _, hcell, hwz⟩
    · simp [Value.cells] at hcs
      obtain ⟨rfl, rfl, rfl⟩ := hcs
      exact ⟨[], .inl ⟨rfl, rfl, rfl, rfl⟩⟩
    · simp [Value.cells] at hcs
      obtain ⟨rfl, rfl, rfl⟩ := hcs
      exact ⟨zs, .inr ⟨_, rfl, hl, hm, by simpa using hz, hcell, hwz⟩⟩
  obtain ⟨z7, w7⟩ : ∃ zs, IsRow .u8 W a7 len7 cap7 zs := by
    obtain ⟨fuel, hf⟩ := h7
    rcases open_ints Yba.underlying23 Yba.underlying5 (by kernel_rfl) hf with ⟨hcs, _⟩ | ⟨x, l, c, zs, hcs, _, hl, hm, hz, _, hcell, hwz⟩
    · simp [Value.cells] at hcs
      obtain ⟨rfl, rfl, rfl⟩ := hcs
      exact ⟨[], .inl ⟨rfl, rfl, rfl, rfl⟩⟩
    · simp [Value.cells] at hcs
      obtain ⟨rfl, rfl, rfl⟩ := hcs
      exact ⟨zs, .inr ⟨_, rfl, hl, hm, by simpa using hz, hcell, hwz⟩⟩
  have w8 : IsPairs W a8 len8 cap8 := by
    obtain ⟨fuel, hf⟩ := h8
    exact pairs_of (by simpa [Value.cells] using hf)
  clear hA0 hval0
  refine (walk a0 a1 a2 a3 a4 a5 len5 cap5 z5 a6 len6 cap6 z6 a7 len7 cap7 z7 a8 len8 cap8 W w0 w1 w2 w3 w4 w5 w6 w7 w8).mono fun e W' ⟨he, bel⟩ => ?_
  subst he
  exact ⟨_, rfl, _, _, _, [], _, [], hW', trodAll_mk1 (shut_bool Yba.underlying4 _), (trodAll_cons_mk (shut_int Yba.underlying5 w0) (trodAll_cons_mk (shut_int Yba.underlying5 w1) (trodAll_cons_mk (shut_int Yba.underlying5 w2) (trodAll_cons_mk (shut_int Yba.underlying5 w3) (trodAll_cons_mk (shut_int Yba.underlying5 w4) (trodAll_cons_mk (Below.trod laidOut (by kernel_rfl) (of_decide_eq_true (by kernel_rfl)) k5 bel lt5) (trodAll_cons_mk (Below.trod laidOut (by kernel_rfl) (of_decide_eq_true (by kernel_rfl)) k6 bel lt6) (trodAll_cons_mk (Below.trod laidOut (by kernel_rfl) (of_decide_eq_true (by kernel_rfl)) k7 bel lt7) (trodAll_cons_mk (Below.trod laidOut (by kernel_rfl) (of_decide_eq_true (by kernel_rfl)) k8 bel lt8) trodAll_mk0))))))))), rfl, bel.frame _, fun h => by cases h⟩

theorem over : Rows.lawS0405BExactRow.holds Yba.pinned (OpenSpec.ofChange Rows.lawS0405BExactSpec) :=
  OpenClaim.holds_of_wide 5 Yba.f5 rfl rfl rfl rfl rfl rfl rfl ⟨rfl, rfl, rfl, rfl, rfl⟩ rfl rfl rfl rfl rfl (by kernel_rfl) Yba.func5 (by kernel_rfl)
    (of_decide_eq_true (by kernel_rfl)) (by unfold Func.isWrapper; first | (rw [if_pos (by decide +kernel)]; kernel_rfl) | (rw [if_neg (by decide +kernel)]; exact ⟨rfl, rfl⟩))
    (fun os started H enc _ => lifted os started H enc)

/-- THE STATEMENT -/
theorem proved : Rows.LawS0405BExactSaid := over
#print axioms proved
end Go.Proofs.Ybulkhjc.lawS0405BExact
