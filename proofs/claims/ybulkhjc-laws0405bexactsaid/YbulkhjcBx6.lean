import Derived.Test.YbulkhjcBx1
/-! the plain side of the choice of a designee. No Go here. -/
namespace Go.Proofs.Ybulkhjc.Bx

/-- how many of the list name f -/
def cntD : List (Nat × Nat) → Nat → Nat
  | [], _ => 0
  | d :: l, f => (if d.2 = f then 1 else 0) + cntD l f
theorem cntD_le (l : List (Nat × Nat)) (f : Nat) : cntD l f ≤ l.length := by
  induction l with
  | nil => exact Nat.le_refl _
  | cons d l ih => simp only [cntD, List.length_cons]; split <;> omega
theorem cntD_append (l l' : List (Nat × Nat)) (f : Nat) : cntD (l ++ l') f = cntD l f + cntD l' f := by
  induction l with
  | nil => simp [cntD]
  | cons d l ih => simp only [List.cons_append, cntD, ih]; omega
theorem cntD_take (l : List (Nat × Nat)) (f i : Nat) (h : i < l.length) : cntD (l.take (i + 1)) f = cntD (l.take i) f + (if (l[i]).2 = f then 1 else 0) := by
  rw [List.take_succ_eq_append_getElem h, cntD_append]; simp [cntD]

/-- who may forward: in V^k, not refused, not the sender -/
def cand (hk rj s f : Nat) : Bool := hk.testBit (f - 1) && !rj.testBit (f - 1) && (f != s)
/-- rank -/
def key (l : List (Nat × Nat)) (j k f : Nat) : Nat := cntD l f * 4294967296 + tie f j k

/-- b is the best of those in D, 0 where there is none; r its rank -/
structure Best (D : Nat → Prop) (K : Nat → Nat) (b r : Nat) : Prop where
  none : b = 0 → ∀ f, D f → False
  some : b ≠ 0 → D b ∧ r = K b ∧ ∀ f, D f → K b ≤ K f

theorem Best.unique {D : Nat → Prop} {K : Nat → Nat} {b r b' r' : Nat} (h : Best D K b r) (h' : Best D K b' r') (inj : ∀ f g, D f → D g → K f = K g → f = g) : b = b' := by
  by_cases e : b = 0
  · by_cases e' : b' = 0
    · rw [e, e']
    · exact (h.none e _ (h'.some e').1).elim
  · by_cases e' : b' = 0
    · exact (h'.none e' _ (h.some e).1).elim
    · have a := h.some e
      have a' := h'.some e'
      exact inj _ _ a.1 a'.1 (Nat.le_antisymm (a.2.2 _ a'.1) (a'.2.2 _ a.1))
theorem Best.congr {D D' : Nat → Prop} {K : Nat → Nat} {b r : Nat} (h : Best D K b r) (e : ∀ f, D f ↔ D' f) : Best D' K b r :=
  ⟨fun hb f hf => h.none hb f ((e f).2 hf), fun hb => ⟨(e b).1 (h.some hb).1, (h.some hb).2.1, fun f hf => (h.some hb).2.2 f ((e f).2 hf)⟩⟩
/-- one more is looked at, and taken -/
theorem Best.take {D : Nat → Prop} {K : Nat → Nat} {b r g : Nat} (h : Best D K b r) (hg : g ≠ 0) (ht : b = 0 ∨ K g < r) : Best (fun f => D f ∨ f = g) K g (K g) := by
  refine ⟨fun e => absurd e hg, fun _ => ⟨.inr rfl, rfl, fun f hf => ?_⟩⟩
  rcases hf with hf | rfl
  · rcases ht with e | hlt
    · exact (h.none e f hf).elim
    · by_cases e : b = 0
      · exact (h.none e f hf).elim
      · have a := h.some e
        have := a.2.2 f hf
        have := a.2.1
        omega
  · exact Nat.le_refl _
/-- .. and left -/
theorem Best.leave {D : Nat → Prop} {K : Nat → Nat} {b r g : Nat} (h : Best D K b r) (hb : b ≠ 0) (ht : r ≤ K g) : Best (fun f => D f ∨ f = g) K b r := by
  have a := h.some hb
  refine ⟨fun e => absurd e hb, fun _ => ⟨.inl a.1, a.2.1, fun f hf => ?_⟩⟩
  rcases hf with hf | rfl
  · exact a.2.2 f hf
  · have := a.2.1; omega
theorem Best.empty (K : Nat → Nat) : Best (fun _ => False) K 0 0 := ⟨fun _ _ h => h, fun h => absurd rfl h⟩

/-- the law's own choice: all f up to m, one by one -/
def stepP (K : Nat → Nat) (C : Nat → Bool) (g b : Nat) : Nat := if C g && (b == 0 || decide (K g < K b)) then g else b
def pickTo (K : Nat → Nat) (C : Nat → Bool) : Nat → Nat
  | 0 => 0
  | m + 1 => stepP K C (m + 1) (pickTo K C m)
def rk (K : Nat → Nat) (b : Nat) : Nat := if b = 0 then 0 else K b
theorem pick_best (K : Nat → Nat) (C : Nat → Bool) : ∀ m, Best (fun f => 1 ≤ f ∧ f ≤ m ∧ C f = true) K (pickTo K C m) (rk K (pickTo K C m))
  | 0 => (Best.empty K).congr fun f => by constructor; exact False.elim; intro h; omega
  | m + 1 => by
    have ih := pick_best K C m
    simp only [pickTo]
    generalize pickTo K C m = b at ih ⊢
    unfold stepP
    cases hc : C (m + 1)
    · simp only [Bool.false_and, Bool.false_eq_true, if_false]
      refine ih.congr fun f => ⟨fun h => ⟨h.1, by omega, h.2.2⟩, fun h => ⟨h.1, ?_, h.2.2⟩⟩
      rcases Nat.lt_or_ge m f with hl | hl
      · have e : f = m + 1 := by omega
        rw [e, hc] at h; exact absurd h.2.2 (by simp)
      · exact hl
    · have hD : ∀ f, ((1 ≤ f ∧ f ≤ m ∧ C f = true) ∨ f = m + 1) ↔ (1 ≤ f ∧ f ≤ m + 1 ∧ C f = true) := fun f => by
        constructor
        · rintro (h | rfl)
          · exact ⟨h.1, by omega, h.2.2⟩
          · exact ⟨by omega, by omega, hc⟩
        · intro h
          by_cases e : f = m + 1
          · exact .inr e
          · exact .inl ⟨h.1, by omega, h.2.2⟩
      by_cases ht : b = 0 ∨ K (m + 1) < K b
      · have e : (true && (b == 0 || decide (K (m + 1) < K b))) = true := by simpa using ht
        rw [if_pos e, show rk K (m + 1) = K (m + 1) from if_neg (by omega)]
        refine (ih.take (by omega) ?_).congr hD
        rcases ht with h | h
        · exact .inl h
        · by_cases hb : b = 0
          · exact .inl hb
          · exact .inr (by rw [show rk K b = K b from if_neg hb]; exact h)
      · have hb : b ≠ 0 := fun e => ht (.inl e)
        have e : (true && (b == 0 || decide (K (m + 1) < K b))) = false := by
          cases hx : (true && (b == 0 || decide (K (m + 1) < K b)))
          · rfl
          · exact absurd (by simpa using hx) ht
        rw [if_neg (by rw [e]; exact Bool.false_ne_true)]
        refine (ih.leave hb ?_).congr hD
        rw [show rk K b = K b from if_neg hb]
        omega

theorem key_inj {l : List (Nat × Nat)} {j k f g : Nat} (hf : f ≤ 16) (hg : g ≤ 16) (hj : j ≤ 16) (hk : k ≤ 16) (h : key l j k f = key l j k g) : f = g := by
  unfold key at h
  have h1 := tie_lt f j k
  have h2 := tie_lt g j k
  exact tie_inj hf hg hj hk (by omega)

/-- the choice -/
def pick (n hk rj s : Nat) (l : List (Nat × Nat)) (j k : Nat) : Nat := pickTo (key l j k) (cand hk rj s) n
theorem pickTo_le (K : Nat → Nat) (C : Nat → Bool) : ∀ m, pickTo K C m ≤ m
  | 0 => Nat.le_refl _
  | m + 1 => by simp only [pickTo, stepP]; have := pickTo_le K C m; split <;> omega
theorem pick_eq {n hk rj s : Nat} {l : List (Nat × Nat)} {j k b r : Nat} (hn : n ≤ 16) (hj : j ≤ 16) (hk' : k ≤ 16) (h : Best (fun f => 1 ≤ f ∧ f ≤ n ∧ cand hk rj s f = true) (key l j k) b r) : b = pick n hk rj s l j k :=
  h.unique (pick_best _ _ n) fun f g hf hg e => key_inj (by omega) (by omega) hj hk' e

end Go.Proofs.Ybulkhjc.Bx
