import Derived.Test.YbulkhhmName
import Derived.Maps.RangeWalk
namespace Go.Proofs.Ybulkhhm.Fg
open Go.RowKit Go.Maps Go.WideMaps

/-! a map from names to accounts, said key by key -/
/-- how an element, a pointer to an account, reads -/
def ptrElem : Value → Option (DataW Unit × List MemPlace)
  | .pointer none => some (.nil, [])
  | .pointer (some ⟨b, 0, none⟩) => some (.lit (.int .i64 b), [])
  | _ => none
theorem ptrElem_mk (b : Nat) : ptrElem (.pointer (some ⟨b, 0, none⟩)) = some (.lit (.int .i64 b), []) := rfl
theorem ptrElem_nil : ptrElem (.pointer none) = some (.nil, []) := rfl
theorem ptrElem_inv {v : Value} {b : Nat} {ps : List MemPlace} (h : ptrElem v = some (.lit (.int .i64 b), ps)) : v = .pointer (some ⟨b, 0, none⟩) := by
  unfold ptrElem at h
  split at h
  · cases h
  · simp only [Option.some.injEq, Prod.mk.injEq, DataW.lit.injEq, Lit.int.injEq, true_and] at h
    obtain ⟨h1, _⟩ := h
    congr; omega
  · cases h
theorem ptrElem_inv_nil {v : Value} {ps : List MemPlace} (h : ptrElem v = some (.nil, ps)) : v = .pointer none := by
  unfold ptrElem at h
  split at h
  · rfl
  · cases h
  · cases h

/-- how many i below n say yes -/
def cnt (a : Nat → Bool) : Nat → Nat
  | 0 => 0
  | k + 1 => cnt a k + if a k then 1 else 0
theorem cnt_congr {a a' : Nat → Bool} : ∀ {n : Nat}, (∀ i, i < n → a i = a' i) → cnt a n = cnt a' n
  | 0, _ => rfl
  | k + 1, h => by simp only [cnt]; rw [cnt_congr (fun i hi => h i (by omega)), h k (by omega)]
theorem cnt_del {a : Nat → Bool} {j : Nat} : ∀ {n : Nat}, j < n → a j = true → cnt (fun i => a i && !(i == j)) n + 1 = cnt a n
  | 0, h, _ => absurd h (by omega)
  | k + 1, h, ha => by
    simp only [cnt]
    by_cases e : k = j
    · subst e
      rw [cnt_congr (a := fun i => a i && !(i == k)) (a' := a) (fun i hi => by
        have : (i == k) = false := by simp; omega
        simp [this])]
      simp [ha]
    · have := cnt_del (n := k) (show j < k by omega) ha
      have e' : (k == j) = false := by simpa using e
      simp only [e', Bool.not_false, Bool.and_true]
      omega
theorem cnt_le (a : Nat → Bool) : ∀ n, cnt a n ≤ n
  | 0 => Nat.le_refl _
  | k + 1 => by simp only [cnt]; have := cnt_le a k; split <;> omega

/-- the map holds just the names i below n with a i, each leading to block b i -/
structure MapIs (D : DataW Unit) (a : Nat → Bool) (b : Nat → Nat) (n : Nat) : Prop where
  tidy : Tidy D
  keys : ∀ kl, has D kl = true ↔ ∃ i, i < n ∧ a i = true ∧ kl = key i
  elem : ∀ i, i < n → a i = true → ∀ z, D.atKey (key i) z = .lit (.int .i64 (b i))
  count : size D = cnt a n

theorem mapIs_empty (a : Nat → Bool) (b : Nat → Nat) : MapIs (.map []) a b 0 :=
  ⟨tidy_empty, fun kl => ⟨fun h => by (cases h), fun ⟨i, hi, _⟩ => absurd hi (by omega)⟩, fun i hi => absurd hi (by omega), rfl⟩

theorem MapIs.congr {D : DataW Unit} {a a' : Nat → Bool} {b b' : Nat → Nat} {n : Nat} (h : MapIs D a b n) (ha : ∀ i, i < n → a i = a' i) (hb : ∀ i, i < n → b i = b' i) : MapIs D a' b' n where
  tidy := h.tidy
  keys := fun kl => (h.keys kl).trans ⟨fun ⟨i, hi, hai, e⟩ => ⟨i, hi, (ha i hi).symm.trans hai, e⟩, fun ⟨i, hi, hai, e⟩ => ⟨i, hi, (ha i hi).trans hai, e⟩⟩
  elem := fun i hi hai z => by rw [h.elem i hi ((ha i hi).trans hai) z, hb i hi]
  count := h.count.trans (cnt_congr ha)

theorem isKey (i : Nat) : WideAt.IsKeyLit (key i) := trivial

theorem MapIs.put {D : DataW Unit} {a : Nat → Bool} {b : Nat → Nat} {k : Nat} (h : MapIs D a b k) (hk : k < 65536) (ha : a k = true) : MapIs (D.put (key k) (.lit (.int .i64 (b k)))) a b (k + 1) := by
  have hno : has D (key k) = false := by
    cases e : has D (key k)
    · rfl
    · obtain ⟨i, hi, _, e2⟩ := (h.keys _).1 e
      exact absurd (key_inj hk (by omega) e2) (by omega)
  refine ⟨h.tidy.put (isKey k) _, fun kl => ?_, fun i hi hai z => ?_, ?_⟩
  · by_cases e : kl = key k
    · subst e
      rw [has_put_same h.tidy.isMap (isKey k)]
      exact ⟨fun _ => ⟨k, by omega, ha, rfl⟩, fun _ => rfl⟩
    · rw [has_put_other e, h.keys]
      refine ⟨fun ⟨i, hi, hai, e2⟩ => ⟨i, by omega, hai, e2⟩, fun ⟨i, hi, hai, e2⟩ => ⟨i, ?_, hai, e2⟩⟩
      rcases Nat.lt_or_ge i k with h1 | h1
      · exact h1
      · obtain rfl : i = k := by omega
        exact absurd e2 e
  · by_cases e : i = k
    · subst e
      rw [atKey_put_same h.tidy.isMap (isKey i)]
    · rw [atKey_put_other (fun e2 => e (key_inj (by omega) hk e2))]
      exact h.elem i (by omega) hai z
  · rw [size_put h.tidy, hno, h.count]
    simp [cnt, ha]

theorem MapIs.del {D : DataW Unit} {a : Nat → Bool} {b : Nat → Nat} {n j : Nat} (h : MapIs D a b n) (hn : n ≤ 65536) (hj : j < n) (ha : a j = true) : MapIs (D.del (key j)) (fun i => a i && !(i == j)) b n := by
  have hyes : has D (key j) = true := (h.keys _).2 ⟨j, hj, ha, rfl⟩
  refine ⟨h.tidy.del _, fun kl => ?_, fun i hi hai z => ?_, ?_⟩
  · by_cases e : kl = key j
    · subst e
      rw [has_del_same]
      refine ⟨fun h => by (cases h), fun ⟨i, hi, hai, e2⟩ => ?_⟩
      obtain rfl := key_inj (by omega) (by omega) e2
      simp at hai
    · rw [has_del_other e, h.keys]
      refine ⟨fun ⟨i, hi, hai, e2⟩ => ⟨i, hi, ?_, e2⟩, fun ⟨i, hi, hai, e2⟩ => ⟨i, hi, ?_, e2⟩⟩
      · have : (i == j) = false := by simp; exact fun e3 => e (e3 ▸ e2)
        simp [hai, this]
      · simp at hai; exact hai.1
  · simp at hai
    rw [atKey_del_other (fun e2 => hai.2 (key_inj (by omega) (by omega) e2))]
    exact h.elem i hi hai.1 z
  · have := size_del (k := key j) h.tidy
    rw [hyes, h.count] at this
    have c := cnt_del hj ha
    simp at this
    omega

/-! the map under way: what is still to come -/
theorem sameKey_key {i j : Nat} (hi : i < 65536) (hj : j < 65536) : (key i).sameKey (key j) = (i == j) := by
  by_cases e : i = j
  · subst e
    rw [WideAt.sameKey_self (isKey i)]; simp
  · rw [sameKey_ne (fun e2 => e (key_inj hi hj e2))]
    simp [e]

/-- an account that stays: the map stands -/
theorem MapIs.skip {D : DataW Unit} {lap : Nat → Bool} {left : Lit → Bool} {b : Nat → Nat} {n j : Nat} (h : MapIs D (fun i => !lap i || left (key i)) b n) (hn : n ≤ 65536) (hj : j < n) (hl : lap j = false) :
    MapIs D (fun i => !lap i || (left (key i) && !(key i).sameKey (key j))) b n := by
  refine h.congr (fun i hi => ?_) (fun _ _ => rfl)
  rw [sameKey_key (by omega) (by omega)]
  by_cases e : i = j
  · subst e; simp [hl]
  · have : (i == j) = false := by simpa using e
    simp [this]
/-- an account that goes -/
theorem MapIs.drop {D : DataW Unit} {lap : Nat → Bool} {left : Lit → Bool} {b : Nat → Nat} {n j : Nat} (h : MapIs D (fun i => !lap i || left (key i)) b n) (hn : n ≤ 65536) (hj : j < n) (hl : lap j = true) (hlf : left (key j) = true) :
    MapIs (D.del (key j)) (fun i => !lap i || (left (key i) && !(key i).sameKey (key j))) b n := by
  refine (h.del hn hj (by simp [hlf])).congr (fun i hi => ?_) (fun _ _ => rfl)
  rw [sameKey_key (by omega) (by omega)]
  by_cases e : i = j
  · subst e; simp [hl]
  · have : (i == j) = false := by simpa using e
    simp [this]
/-- at the end nothing is to come -/
theorem MapIs.done {D : DataW Unit} {lap : Nat → Bool} {left : Lit → Bool} {b : Nat → Nat} {n : Nat} (h : MapIs D (fun i => !lap i || left (key i)) b n) (hl : ∀ kl, left kl = false) : MapIs D (fun i => !lap i) b n :=
  h.congr (fun i _ => by simp [hl]) (fun _ _ => rfl)
/-- at the start all of it is -/
theorem MapIs.start {D : DataW Unit} {b : Nat → Nat} {n : Nat} (h : MapIs D (fun _ => true) b n) (lap : Nat → Bool) : MapIs D (fun i => !lap i || has D (key i)) b n :=
  h.congr (fun i hi => by rw [(h.keys _).2 ⟨i, hi, rfl, rfl⟩]; simp) (fun _ _ => rfl)

theorem law : Keyed Yba.prog 9 := string_keyed Yba.underlying9
theorem zeroE (w : World) : (zeroValue 43).run Yba.prog w = .ok (.pointer none) w := by kernel_rfl
theorem nameKey (i : Nat) : keyOf Yba.prog 9 (.string (nameOf i)) = some (key i) := by
  rw [keyOf_string_mk Yba.underlying9 (show (nameOf i).size ≤ maxLen from (by decide : 3 ≤ maxLen))]; rfl
theorem keyName {v : Value} {i : Nat} (h : keyOf Yba.prog 9 v = some (key i)) : v = .string (nameOf i) := by
  have h2 := h
  rw [keyOf_string Yba.underlying9] at h2
  cases v <;> simp [mapKey, Yba.underlying9] at h2
  rename_i s
  obtain ⟨_, h2⟩ := h2
  simp only [key, Lit.string.injEq] at h2
  have : s = nameOf i := ByteArray.ext (Array.ext' (by rw [h2]; rfl))
  rw [this]

section
variable (w : World) {ops : Array Oper} {rest : List Oper} {o : Oper} {a : Act} {Q : Exit → Act → World → Prop}
/-- THE STEP of a range over such a map -/
theorem wpList_next_acc (hg : o.guard = none) (it : Operand) (hop : o.op = Op.next it false) (bm r n N : Nat) (D : DataW Unit) (left : Lit → Bool) (c : Nat) (ex : Nat → Bool) (b : Nat → Nat)
    (hit : a.eval it = .pointer (some ⟨r, 0, none⟩)) (h : w.ranges Yba.prog 9 ptrElem bm r n D left c) (hD : MapIs D ex b N)
    (hDone : (∀ kl, left kl = false) → wpList Yba.prog ops Q rest (a.put o.dst (.tuple #[.bool false])) w)
    (hMore : ∀ (j : Nat) (w' : World) (c' : Nat), j < N → left (key j) = true → w'.ranges Yba.prog 9 ptrElem bm r n D (fun z => left z && !z.sameKey (key j)) c' → c' < c →
      w.grownBy w' (some r) → w'.heap.size = w.heap.size → (Instr.entry (.pointer (some ⟨r, 0, none⟩))).run Yba.prog w' = .ok (.tuple #[.string (nameOf j), .pointer (some ⟨b j, 0, none⟩)]) w' → wpList Yba.prog ops Q rest (a.put o.dst (.tuple #[.bool true, .string (nameOf j), .pointer (some ⟨b j, 0, none⟩)])) w') :
    wpList Yba.prog ops Q (o :: rest) a w := by
  refine wpList_plain hg fun K' hK' => ?_
  unfold Oper.wp
  rcases h.next law o.type with ⟨h0, hl, hrun⟩ | ⟨k, v, kl, y, w', c', hkey, hlk, hv, hat, hrun, hrg, hlt, hgr, hsz, hen⟩
  · simp [execOp, hop, hit, hrun, Result.andThen]
    exact hK' _ _ (hDone hl)
  · obtain ⟨j, hj, hex, rfl⟩ := (hD.keys kl).1 (has_true_of_atKey hat)
    obtain rfl := keyName hkey
    have hy := (hat .nil).symm.trans (hD.elem j hj hex .nil)
    obtain ⟨y1, y2⟩ := y
    simp only at hy
    subst hy
    obtain rfl := ptrElem_inv hv
    simp [execOp, hop, hit, hrun, Result.andThen]
    exact hK' _ _ (hMore j w' c' hj hlk hrg hlt hgr hsz hen)
end
end Go.Proofs.Ybulkhhm.Fg
