import Derived.Test.YbulkhjcWant
import Derived.Test.YbulkhjcEqual
namespace Go.Proofs.Ybulkhjc.Fr
open Go.RowKit Go.Lib

/-- the party is laid; nothing that was there has turned -/
structure Pre (w : World) (nn : Int) (agree : Nat) (W : World) : Prop where
  below : Below w.heap.size w W
  p0 : W.cell? ⟨w.heap.size, 0, none⟩ = some (.int .i64 nn)
  p2 : W.cell? ⟨w.heap.size, 2, none⟩ = some (.int .u64 agree)
  size : w.heap.size + 1 ≤ W.heap.size

theorem Pre.next {w : World} {nn : Int} {agree : Nat} {W W' : World} (h : Pre w nn agree W) (hb : Below (w.heap.size + 1) W W') : Pre w nn agree W' :=
  ⟨h.below.trans (hb.mono (by omega)), (hb.cell (p := ⟨w.heap.size, 0, none⟩) (by simp)).trans h.p0, (hb.cell (p := ⟨w.heap.size, 2, none⟩) (by simp)).trans h.p2, Nat.le_trans h.size hb.size⟩

theorem pre_start (w : World) (nn : Int) (agree : Nat) (kd bk ini : UInt8) (pc : Array Value) (h0 : pc[0]? = some (.int .i64 nn)) (h2 : pc[2]? = some (.int .u64 agree)) :
    Pre w nn agree ((w.alloc (.cells pc 38)).alloc (.cells #[.int .u8 kd.toNat, .int .u8 bk.toNat, .int .u8 ini.toNat] 5)) ∧
    ((w.alloc (.cells pc 38)).alloc (.cells #[.int .u8 kd.toNat, .int .u8 bk.toNat, .int .u8 ini.toNat] 5)).ownsRow (w.heap.size + 1) 5 1 (.slice (some ⟨w.heap.size + 1, 0, none⟩) 3 3) 3 (byteCells [kd, bk, ini]) := by
  have e1 : (w.alloc (.cells pc 38)).heap.size = w.heap.size + 1 := by simp
  refine ⟨⟨?_, ?_, ?_, by simp⟩, ?_⟩
  · exact ((Below.refl _ _).alloc (Nat.le_refl _) _).alloc (by omega) _
  · rw [World.cell?_alloc_past _ _ _ (by omega), World.cell?_alloc_at _ _ _ _ rfl, h0]
  · rw [World.cell?_alloc_past _ _ _ (by omega), World.cell?_alloc_at _ _ _ _ rfl, h2]
  · have := World.ownsRow_lit (base := w.heap.size + 1) (e := 5) (size := 1) (w.alloc (.cells pc 38)) #[.int .u8 kd.toNat, .int .u8 bk.toNat, .int .u8 ini.toNat] 3 (by omega) (by unfold maxLen; omega) rfl
    rw [e1] at this
    exact this

/-- behind the three appends -/
theorem pre_end {w : World} {nn : Int} {agree : Nat} {W : World} (h : Pre w nn agree W) {kd bk ini : UInt8} {mid k : Nat} {P : List UInt8} {len : Nat} {v : Value} (hmid : mid < 18446744073709551616) (hk : k < 18446744073709551616) (hpl : P.length = len) (hlen : len ≤ 1024)
    (hown : W.ownsRow (w.heap.size + 1) 5 1 v (3 + (uvarint mid).length + (uvarint k).length + len) (byteCells [kd, bk, ini] ++ byteCells (uvarint mid) ++ byteCells (uvarint k) ++ byteCells P)) :
    ∃ g n c, v = .slice (some ⟨g, 0, none⟩) n c ∧ w.heap.size < g ∧ g < W.heap.size ∧ len ≤ n ∧ Given W w.heap.size nn agree g n c kd bk ini mid k P := by
  obtain ⟨g, c, hv, hnc, hcc, hbg, hg, hc⟩ := owned_at hown (by omega)
  refine ⟨g, _, c, hv, by omega, hg, by omega, given_of h.p0 h.p2 (by have := h.size; omega) hmid hk (by omega) ?_ hnc hcc hg ?_⟩
  · rw [msg_len, hpl]
  · intro j u hj
    refine hc j u ?_
    rw [← hj]
    simp [byteCells, msg]

/-- each byte of the payload, in the message -/
theorem given_pay {w : World} {pb : Nat} {nn : Int} {agree g n c : Nat} {kd bk ini : UInt8} {mid k : Nat} {P : List UInt8} (G : Given w pb nn agree g n c kd bk ini mid k P) {len : Nat} (hpl : P.length = len) (i : Nat) (hi : i < len) :
    w.cell? ⟨g, n - len + i, none⟩ = some (.int .u8 (P.getD i 0).toNat) := by
  have hn := G.hn
  have hl := msg_len kd bk ini mid k P
  have hj : n - len + i < (msg kd bk ini mid k P).length := by omega
  have := G.hmsg (n - len + i) hj
  rw [Nat.zero_add] at this
  rw [this]
  congr 3
  have e : n - len + i = 3 + ((uvarint mid).length + ((uvarint k).length + i)) := by omega
  simp only [e]
  have hP : i < P.length := by omega
  have e2 : (msg kd bk ini mid k P)[3 + ((uvarint mid).length + ((uvarint k).length + i))]? = some P[i] := by
    rw [Nat.add_comm 3]
    simp [msg, hP]
  rw [(List.getElem?_eq_some_iff.1 e2).2]
  simp [hP]
end Go.Proofs.Ybulkhjc.Fr
