import Derived.Test.YbulkhjcParse3
import Derived.Laws.AppendOwnNone
import Derived.Laws.OwnMore
import Derived.OwnWalk
namespace Go.Proofs.Ybulkhjc.Fr
open Go.RowKit Go.Lib

/-- the payload that came in: nil, or bytes behind an address -/
def Pay (w : World) (a : Option Addr) (len cap : Nat) (P : List UInt8) : Prop :=
  P.length = len ∧ ((a = none ∧ len = 0 ∧ cap = 0) ∨ ∃ x, a = some x ∧ ∀ j (hj : j < P.length), w.cell? (x.add j) = some (.int .u8 (P[j]).toNat))

theorem block_lt {w : World} {a : Addr} {v : Value} (h : w.cell? a = some v) : a.block < w.heap.size := by
  rcases Nat.lt_or_ge a.block w.heap.size with h1 | h1
  · exact h1
  · simp [World.cell?, Array.getElem?_eq_none h1] at h

theorem Pay.below {w w' : World} {a : Option Addr} {len cap B : Nat} {P : List UInt8} (h : Pay w a len cap P) (hB : w.heap.size ≤ B) (hb : Below B w w') : Pay w' a len cap P := by
  refine ⟨h.1, ?_⟩
  rcases h.2 with h | ⟨x, rfl, hc⟩
  · exact .inl h
  · refine .inr ⟨x, rfl, fun j hj => ?_⟩
    rw [hb.cell (p := x.add j) (Nat.lt_of_lt_of_le (block_lt (hc j hj)) hB)]
    exact hc j hj

theorem info5 : (Yba.prog.info? 5).map (fun i => (i.zero, i.size, i.bytes)) = some (some (.int .u8 0), 1, 1) := by kernel_rfl

theorem byteCells_get (l : List UInt8) (j : Nat) (hj : j < l.length) : (byteCells l)[j]? = some (.int .u8 (l[j]).toNat) := by
  simp [byteCells, hj]

/-- 'append(data, payload...)': nil or not -/
theorem wpList_append_pay {w : World} {ops : Array Oper} {rest : List Oper} {o : Oper} {a : Act} {Q : Exit → Act → World → Prop} (hgd : o.guard = none) (s x : Operand)
    (ho : o.op = .call { callee := .builtin .append, args := #[s, x], argTypes := #[23, 23] }) (base : Nat) (v : Value) (n : Nat) (xs : List Value) (hs : a.eval s = v) (hown : w.ownsRow base 5 1 v n xs)
    (ao : Option Addr) (len cap : Nat) (P : List UInt8) (hx : a.eval x = .slice ao len cap) (hP : Pay w ao len cap P) (hn : n ≤ 100) (hl : len ≤ 1024) (hbase : base ≤ w.heap.size)
    (h : ∀ v' w', w'.ownsRow base 5 1 v' (n + len) (xs ++ byteCells P) → Below base w w' → wpList Yba.prog ops Q rest (a.put o.dst v') w') : wpList Yba.prog ops Q (o :: rest) a w := by
  obtain ⟨i0, hi, hz0, hz1, hz2⟩ := info_parts info5
  obtain ⟨hPl, hP⟩ := hP
  rcases hP with ⟨rfl, rfl, rfl⟩ | ⟨ad, rfl, hc⟩
  · obtain rfl : P = [] := List.eq_nil_of_length_eq_zero hPl
    refine wpList_append_own_none hgd s x 23 ho base 5 i0 1 Yba.underlying23 hi v n xs hs hown hx ?_
    exact h v w (by simpa [byteCells] using hown) (Below.refl _ _)
  · refine wpList_append_own w hgd s x 23 ho base 5 i0 (.int .u8 0) 1 1 Yba.underlying23 hi hz0 hz1 hz2 rfl (by decide) v n xs hs hown ad len cap (byteCells P) hx (by simp [byteCells, hPl]) (fun j u hj => ?_) (fun u hu => ?_) (by unfold maxLen; omega) (by omega) hbase ?_
    · have hj' : j < P.length := by
        have := (List.getElem?_eq_some_iff.1 hj).1
        simpa [byteCells] using this
      rw [byteCells_get P j hj'] at hj
      rw [hc j hj', hj]
    · simp only [byteCells, List.mem_map] at hu
      obtain ⟨b, _, rfl⟩ := hu
      rfl
    · intro v' w' h1 h2 _
      refine h v' w' h1 ?_
      exact (Below.refl base w).grown h2 hbase (fun k hk => (hown.lt k hk).1)

/-- a row that is owned and is not empty lies at a block's head -/
theorem owned_at {w : World} {base n : Nat} {v : Value} {xs : List Value} (h : w.ownsRow base 5 1 v n xs) (hn : 0 < n) : ∃ g c, v = .slice (some ⟨g, 0, none⟩) n c ∧ n ≤ c ∧ c ≤ 9223372036854775807 ∧ base ≤ g ∧ g < w.heap.size ∧ ∀ j u, xs[j]? = some u → w.cell? ⟨g, j, none⟩ = some u := by
  have hlen := h.1
  rcases h.2 with ⟨_, h0⟩ | ⟨g, cap, cur, rfl, hb, hg, hnc, hc, hsz, htk⟩
  · omega
  · refine ⟨g, cap, rfl, hnc, by unfold maxLen at hc; omega, hb, (Array.getElem?_eq_some_iff.1 hg).1, fun j u hj => ?_⟩
    have := h.cells (g := g) rfl j u hj
    rwa [show (⟨g, 0, none⟩ : Addr).add j = ⟨g, j, none⟩ from by unfold Addr.add; split <;> simp_all] at this

/-- what parse is handed, out of the row that the call has built -/
theorem given_of {w : World} {pb : Nat} {nn : Int} {agree g n c : Nat} {kd bk ini : UInt8} {mid k : Nat} {P : List UInt8} (hp0 : w.cell? ⟨pb, 0, none⟩ = some (.int .i64 nn)) (hp2 : w.cell? ⟨pb, 2, none⟩ = some (.int .u64 agree)) (hpb : pb < w.heap.size)
    (hmid : mid < 18446744073709551616) (hk : k < 18446744073709551616) (hpl : P.length ≤ 1024) (hn : n = (msg kd bk ini mid k P).length) (hnc : n ≤ c) (hcc : c ≤ 9223372036854775807) (hg : g < w.heap.size)
    (hc : ∀ j u, (byteCells (msg kd bk ini mid k P))[j]? = some u → w.cell? ⟨g, j, none⟩ = some u) : Given w pb nn agree g n c kd bk ini mid k P :=
  ⟨hp0, hp2, hpb, hmid, hk, hpl, hn, hnc, hcc, fun j hj => by rw [Nat.zero_add]; exact hc j _ (byteCells_get _ j hj), hg⟩
end Go.Proofs.Ybulkhjc.Fr
