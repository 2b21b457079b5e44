import Derived.Test.YbulkhjcFrame
import Derived.Lib.SliceRun
namespace Go.Proofs.Ybulkhjc.Fr
open Go.RowKit Go.Lib

def bl (n : Int) : Int := wrap64 (wrap64 ((wrap64 (n + 7)).tdiv 8) + 1)
theorem ballot_any (n : Int) (w : World) : Calls Yba.prog 19 #[.int .i64 n] w fun e w' => e = .returned (.int .i64 (bl n)) ∧ w' = w := by
  go_enter Yba.func19, Yba.ntmps19
  go_wp2
  go_ret
  exact ⟨rfl, rfl⟩

/-- parse turns the message away -/
def Rej (w : World) (e : Ending) (w' : World) : Prop := e = .returned (.tuple #[.agg #[.int .u8 0, .int .i64 0, .int .i64 0], .int .u8 0, .slice none 0 0, .bool false]) ∧ Below w.heap.size w w'
/-- parse takes it -/
def Acc (w : World) (g n pl : Nat) (tg kv : Value) (e : Ending) (w' : World) : Prop :=
  ∃ X C, e = .returned (.tuple #[tg, kv, .slice X pl C, .bool true]) ∧ (0 < pl → X = some ⟨g, n - pl, none⟩) ∧ Below w.heap.size w w'

/-- what parse is handed -/
structure Given (w : World) (pb : Nat) (nn : Int) (agree : Nat) (g n c : Nat) (kd bk ini : UInt8) (mid k : Nat) (P : List UInt8) : Prop where
  hp0 : w.cell? ⟨pb, 0, none⟩ = some (.int .i64 nn)
  hp2 : w.cell? ⟨pb, 2, none⟩ = some (.int .u64 agree)
  hpb : pb < w.heap.size
  hmid : mid < 18446744073709551616
  hk : k < 18446744073709551616
  hpl : P.length ≤ 1024
  hn : n = (msg kd bk ini mid k P).length
  hnc : n ≤ c
  hcc : c ≤ 9223372036854775807
  hmsg : At w g 0 (msg kd bk ini mid k P)
  hg : g < w.heap.size

theorem six {w w1 : World} {o : Obj} (hb : Below (w.alloc o).heap.size (w.alloc o) w1) {u0 u1 u2 : Value} (f0 : w1.cell? ⟨w.heap.size, 0, none⟩ = some u0) (f1 : w1.cell? ⟨w.heap.size, 1, none⟩ = some u1) (f2 : w1.cell? ⟨w.heap.size, 2, none⟩ = some u2) (a0 a1 a2 b0 b1 b2 : Value) :
    ∃ w6, ((((((w1.setCell ⟨w.heap.size, 0, none⟩ a0).setCell ⟨w.heap.size, 1, none⟩ a1).setCell ⟨w.heap.size, 2, none⟩ a2).setCell ⟨w.heap.size, 0, none⟩ b0).setCell ⟨w.heap.size, 1, none⟩ b1).setCell ⟨w.heap.size, 2, none⟩ b2) = w6 ∧
      Below w.heap.size w w6 ∧ w6.cell? ⟨w.heap.size, 0, none⟩ = some b0 ∧ w6.cell? ⟨w.heap.size, 1, none⟩ = some b1 ∧ w6.cell? ⟨w.heap.size, 2, none⟩ = some b2 := by
  have b : Below w.heap.size w w1 := ((Below.refl _ _).alloc (Nat.le_refl _) o).trans (hb.mono (by simp))
  refine ⟨_, rfl, (((((b.setCell (Nat.le_refl _) _).setCell (Nat.le_refl _) _).setCell (Nat.le_refl _) _).setCell (Nat.le_refl _) _).setCell (Nat.le_refl _) _).setCell (Nat.le_refl _) _, ?_, ?_, ?_⟩
  · rw [World.cell?_setCell_other _ _ _ _ (by simp), World.cell?_setCell_other _ _ _ _ (by simp)]
    refine World.cell?_setCell_same (u := a0) _ _ _ ?_
    rw [World.cell?_setCell_other _ _ _ _ (by simp), World.cell?_setCell_other _ _ _ _ (by simp)]
    exact World.cell?_setCell_same _ _ _ f0
  · rw [World.cell?_setCell_other _ _ _ _ (by simp)]
    refine World.cell?_setCell_same (u := a1) _ _ _ ?_
    rw [World.cell?_setCell_other _ _ _ _ (by simp), World.cell?_setCell_other _ _ _ _ (by simp)]
    refine World.cell?_setCell_same (u := u1) _ _ _ ?_
    rw [World.cell?_setCell_other _ _ _ _ (by simp)]; exact f1
  · refine World.cell?_setCell_same (u := a2) _ _ _ ?_
    rw [World.cell?_setCell_other _ _ _ _ (by simp), World.cell?_setCell_other _ _ _ _ (by simp)]
    refine World.cell?_setCell_same (u := u2) _ _ _ ?_
    rw [World.cell?_setCell_other _ _ _ _ (by simp), World.cell?_setCell_other _ _ _ _ (by simp)]; exact f2

set_option maxRecDepth 100000 in
theorem parse_big {w : World} {pb : Nat} {nn : Int} {agree g n c : Nat} {kd bk ini : UInt8} {mid k : Nat} {P : List UInt8} (G : Given w pb nn agree g n c kd bk ini mid k P) (hk : 2147483647 < k) :
    Calls Yba.prog 8 #[.pointer (some ⟨pb, 0, none⟩), .slice (some ⟨g, 0, none⟩) n c] w (Rej w) := by
  have p0 := G.hp0
  have hpb := G.hpb
  go_enter Yba.func8, Yba.ntmps8
  go_wp2_with fail
  refine (frame_big g c kd bk ini mid k P _ G.hmid hk G.hk G.hpl n G.hn G.hnc G.hcc (G.hmsg.below ((Below.refl w.heap.size w).alloc (Nat.le_refl _) _) G.hg) (by simp; have := G.hg; omega)).mono ?_
  rintro e w1 ⟨rfl, hb1⟩
  have f0 := hb1.cell (p := ⟨w.heap.size, 0, none⟩) (by simp)
  have f1 := hb1.cell (p := ⟨w.heap.size, 1, none⟩) (by simp)
  have f2 := hb1.cell (p := ⟨w.heap.size, 2, none⟩) (by simp)
  have z0 := hb1.frozen (p := ⟨w.heap.size, 0, none⟩) (by simp)
  have z1 := hb1.frozen (p := ⟨w.heap.size, 1, none⟩) (by simp)
  have z2 := hb1.frozen (p := ⟨w.heap.size, 2, none⟩) (by simp)
  simp at f0 f1 f2 z0 z1 z2
  go_wp2
  obtain ⟨w6, e6, b6, d0, d1, d2⟩ := six hb1 f0 f1 f2 (.int .u8 0) (.int .i64 0) (.int .i64 0) (.int .u8 0) (.int .i64 0) (.int .i64 0)
  rw [e6]
  refine bodyPost_ret (v := .tuple #[.agg #[.int .u8 0, .int .i64 0, .int .i64 0], .int .u8 0, .slice none 0 0, .bool false]) ?_ rfl ⟨rfl, b6⟩
  simp [results, Yba.results8, go_sem, d0, d1, d2]

set_option maxRecDepth 100000 in
theorem parse_id {w : World} {pb : Nat} {nn : Int} {agree g n c : Nat} {kd bk ini : UInt8} {mid k : Nat} {P : List UInt8} (G : Given w pb nn agree g n c kd bk ini mid k P) (hk : k ≤ 2147483647) (h1 : ((mid : Int) != (agree : Int)) = true) :
    Calls Yba.prog 8 #[.pointer (some ⟨pb, 0, none⟩), .slice (some ⟨g, 0, none⟩) n c] w (Rej w) := by
  have p0 := G.hp0
  have hpb := G.hpb
  go_enter Yba.func8, Yba.ntmps8
  go_wp2_with fail
  refine (frame_ok g c kd bk ini mid k P _ G.hmid hk G.hpl n G.hn G.hnc G.hcc (G.hmsg.below ((Below.refl w.heap.size w).alloc (Nat.le_refl _) _) G.hg) (by simp; have := G.hg; omega)).mono ?_
  rintro e w1 ⟨X, C, rfl, hX, hb1⟩
  have f0 := hb1.cell (p := ⟨w.heap.size, 0, none⟩) (by simp)
  have f1 := hb1.cell (p := ⟨w.heap.size, 1, none⟩) (by simp)
  have f2 := hb1.cell (p := ⟨w.heap.size, 2, none⟩) (by simp)
  have z0 := hb1.frozen (p := ⟨w.heap.size, 0, none⟩) (by simp)
  have z1 := hb1.frozen (p := ⟨w.heap.size, 1, none⟩) (by simp)
  have z2 := hb1.frozen (p := ⟨w.heap.size, 2, none⟩) (by simp)
  simp at f0 f1 f2 z0 z1 z2
  have q2 : w1.cell? ⟨pb, 2, none⟩ = some (.int .u64 agree) := (hb1.cell (p := ⟨pb, 2, none⟩) (by simp; omega)).trans ((World.cell?_alloc_past _ _ _ hpb).trans G.hp2)
  go_wp2
  obtain ⟨w6, e6, b6, d0, d1, d2⟩ := six hb1 f0 f1 f2 (.int .u8 kd.toNat) (.int .i64 ini.toNat) (.int .i64 k) (.int .u8 0) (.int .i64 0) (.int .i64 0)
  rw [e6]
  refine bodyPost_ret (v := .tuple #[.agg #[.int .u8 0, .int .i64 0, .int .i64 0], .int .u8 0, .slice none 0 0, .bool false]) ?_ rfl ⟨rfl, b6⟩
  simp [results, Yba.results8, go_sem, d0, d1, d2]

set_option maxRecDepth 100000 in
theorem parse_low {w : World} {pb : Nat} {nn : Int} {agree g n c : Nat} {kd bk ini : UInt8} {mid k : Nat} {P : List UInt8} (G : Given w pb nn agree g n c kd bk ini mid k P) (hk : k ≤ 2147483647) (h1 : ((mid : Int) != (agree : Int)) = false) (h2 : (ini.toNat : Int) < 1) :
    Calls Yba.prog 8 #[.pointer (some ⟨pb, 0, none⟩), .slice (some ⟨g, 0, none⟩) n c] w (Rej w) := by
  have p0 := G.hp0
  have hpb := G.hpb
  go_enter Yba.func8, Yba.ntmps8
  go_wp2_with fail
  refine (frame_ok g c kd bk ini mid k P _ G.hmid hk G.hpl n G.hn G.hnc G.hcc (G.hmsg.below ((Below.refl w.heap.size w).alloc (Nat.le_refl _) _) G.hg) (by simp; have := G.hg; omega)).mono ?_
  rintro e w1 ⟨X, C, rfl, hX, hb1⟩
  have f0 := hb1.cell (p := ⟨w.heap.size, 0, none⟩) (by simp)
  have f1 := hb1.cell (p := ⟨w.heap.size, 1, none⟩) (by simp)
  have f2 := hb1.cell (p := ⟨w.heap.size, 2, none⟩) (by simp)
  have z0 := hb1.frozen (p := ⟨w.heap.size, 0, none⟩) (by simp)
  have z1 := hb1.frozen (p := ⟨w.heap.size, 1, none⟩) (by simp)
  have z2 := hb1.frozen (p := ⟨w.heap.size, 2, none⟩) (by simp)
  simp at f0 f1 f2 z0 z1 z2
  have q2 : w1.cell? ⟨pb, 2, none⟩ = some (.int .u64 agree) := (hb1.cell (p := ⟨pb, 2, none⟩) (by simp; omega)).trans ((World.cell?_alloc_past _ _ _ hpb).trans G.hp2)
  go_wp2
  obtain ⟨w6, e6, b6, d0, d1, d2⟩ := six hb1 f0 f1 f2 (.int .u8 kd.toNat) (.int .i64 ini.toNat) (.int .i64 k) (.int .u8 0) (.int .i64 0) (.int .i64 0)
  rw [e6]
  refine bodyPost_ret (v := .tuple #[.agg #[.int .u8 0, .int .i64 0, .int .i64 0], .int .u8 0, .slice none 0 0, .bool false]) ?_ rfl ⟨rfl, b6⟩
  simp [results, Yba.results8, go_sem, d0, d1, d2]

set_option maxRecDepth 100000 in
theorem parse_high {w : World} {pb : Nat} {nn : Int} {agree g n c : Nat} {kd bk ini : UInt8} {mid k : Nat} {P : List UInt8} (G : Given w pb nn agree g n c kd bk ini mid k P) (hk : k ≤ 2147483647) (h1 : ((mid : Int) != (agree : Int)) = false) (h2 : ¬ (ini.toNat : Int) < 1) (h3 : nn < (ini.toNat : Int)) :
    Calls Yba.prog 8 #[.pointer (some ⟨pb, 0, none⟩), .slice (some ⟨g, 0, none⟩) n c] w (Rej w) := by
  have p0 := G.hp0
  have hpb := G.hpb
  go_enter Yba.func8, Yba.ntmps8
  go_wp2_with fail
  refine (frame_ok g c kd bk ini mid k P _ G.hmid hk G.hpl n G.hn G.hnc G.hcc (G.hmsg.below ((Below.refl w.heap.size w).alloc (Nat.le_refl _) _) G.hg) (by simp; have := G.hg; omega)).mono ?_
  rintro e w1 ⟨X, C, rfl, hX, hb1⟩
  have f0 := hb1.cell (p := ⟨w.heap.size, 0, none⟩) (by simp)
  have f1 := hb1.cell (p := ⟨w.heap.size, 1, none⟩) (by simp)
  have f2 := hb1.cell (p := ⟨w.heap.size, 2, none⟩) (by simp)
  have z0 := hb1.frozen (p := ⟨w.heap.size, 0, none⟩) (by simp)
  have z1 := hb1.frozen (p := ⟨w.heap.size, 1, none⟩) (by simp)
  have z2 := hb1.frozen (p := ⟨w.heap.size, 2, none⟩) (by simp)
  simp at f0 f1 f2 z0 z1 z2
  have q2 : w1.cell? ⟨pb, 2, none⟩ = some (.int .u64 agree) := (hb1.cell (p := ⟨pb, 2, none⟩) (by simp; omega)).trans ((World.cell?_alloc_past _ _ _ hpb).trans G.hp2)
  go_wp2
  obtain ⟨w6, e6, b6, d0, d1, d2⟩ := six hb1 f0 f1 f2 (.int .u8 kd.toNat) (.int .i64 ini.toNat) (.int .i64 k) (.int .u8 0) (.int .i64 0) (.int .i64 0)
  rw [e6]
  refine bodyPost_ret (v := .tuple #[.agg #[.int .u8 0, .int .i64 0, .int .i64 0], .int .u8 0, .slice none 0 0, .bool false]) ?_ rfl ⟨rfl, b6⟩
  simp [results, Yba.results8, go_sem, d0, d1, d2]

end Go.Proofs.Ybulkhjc.Fr
