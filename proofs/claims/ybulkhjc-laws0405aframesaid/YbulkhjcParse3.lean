import Derived.Test.YbulkhjcParse2
namespace Go.Proofs.Ybulkhjc.Fr
open Go.RowKit Go.Lib
set_option maxHeartbeats 1000000 in
set_option maxRecDepth 100000 in
theorem parse_last1_rej {w : World} {pb : Nat} {nn : Int} {agree g n c : Nat} {kd bk ini : UInt8} {mid k : Nat} {P : List UInt8} (G : Given w pb nn agree g n c kd bk ini mid k P) (pl : Nat) (hpl : P.length = pl) (hk : k ≤ 2147483647) (h1 : ((mid : Int) != (agree : Int)) = false) (h2 : ¬ (ini.toNat : Int) < 1) (h3 : ¬ nn < (ini.toNat : Int)) (hK : (((kd.toNat : Int) == 1) = true ∧ ((kd.toNat : Int) == 4) = false ∧ ((k : Int) == 0) = false) ∨ (((kd.toNat : Int) == 1) = false ∧ ((kd.toNat : Int) == 4) = true ∧ ((k : Int) == 0) = true)) (hl : ((pl : Int) == 1) = true) (lb : Int) (hlb : w.cell? ⟨g, n - pl + (pl - 1), none⟩ = some (.int .u8 lb)) (hp1 : 1 ≤ pl) (ht : 1 < lb) :
    Calls Yba.prog 8 #[.pointer (some ⟨pb, 0, none⟩), .slice (some ⟨g, 0, none⟩) n c] w (Rej w) := by
  have hplb : pl ≤ 1024 := by rw [← hpl]; exact G.hpl
  rcases hK with ⟨e1, e4, ek⟩ | ⟨e1, e4, ek⟩
  all_goals
    have p0 := G.hp0
    have hpb := G.hpb
    go_enter Yba.func8, Yba.ntmps8
    go_wp2_with fail
    refine (frame_ok' g c kd bk ini mid k P pl _ G.hmid hk G.hpl hpl n G.hn G.hnc G.hcc (G.hmsg.below ((Below.refl w.heap.size w).alloc (Nat.le_refl _) _) G.hg) (by simp; have := G.hg; omega)).mono ?_
    rintro e w1 ⟨X, C, rfl, hX, hb1⟩
    have f0 := hb1.cell (p := ⟨w.heap.size, 0, none⟩) (by simp)
    have f1 := hb1.cell (p := ⟨w.heap.size, 1, none⟩) (by simp)
    have f2 := hb1.cell (p := ⟨w.heap.size, 2, none⟩) (by simp)
    have z0 := hb1.frozen (p := ⟨w.heap.size, 0, none⟩) (by simp)
    have z1 := hb1.frozen (p := ⟨w.heap.size, 1, none⟩) (by simp)
    have z2 := hb1.frozen (p := ⟨w.heap.size, 2, none⟩) (by simp)
    simp at f0 f1 f2 z0 z1 z2
    have q2 : w1.cell? ⟨pb, 2, none⟩ = some (.int .u64 agree) := (hb1.cell (p := ⟨pb, 2, none⟩) (by simp; omega)).trans ((World.cell?_alloc_past _ _ _ hpb).trans G.hp2)
    have hX' := hX (by omega)
    subst hX'
    have q3 : w1.cell? ⟨g, n - pl + (pl - 1), none⟩ = some (.int .u8 lb) := (hb1.cell (p := ⟨g, n - pl + (pl - 1), none⟩) (by simp; have := G.hg; omega)).trans ((World.cell?_alloc_past _ _ _ G.hg).trans hlb)
    have hgw : g < w.heap.size := G.hg
    go_wp2
    obtain ⟨w6, e6, b6, d0, d1, d2⟩ := six hb1 f0 f1 f2 (.int .u8 kd.toNat) (.int .i64 ini.toNat) (.int .i64 k) (.int .u8 0) (.int .i64 0) (.int .i64 0)
    rw [e6]
    refine bodyPost_ret (v := .tuple #[.agg #[.int .u8 0, .int .i64 0, .int .i64 0], .int .u8 0, .slice none 0 0, .bool false]) ?_ rfl ⟨rfl, b6⟩
    simp [results, Yba.results8, go_sem, d0, d1, d2]

set_option maxHeartbeats 1000000 in
set_option maxRecDepth 100000 in
theorem parse_last2_rej {w : World} {pb : Nat} {nn : Int} {agree g n c : Nat} {kd bk ini : UInt8} {mid k : Nat} {P : List UInt8} (G : Given w pb nn agree g n c kd bk ini mid k P) (pl : Nat) (hpl : P.length = pl) (hk : k ≤ 2147483647) (h1 : ((mid : Int) != (agree : Int)) = false) (h2 : ¬ (ini.toNat : Int) < 1) (h3 : ¬ nn < (ini.toNat : Int)) (hK : (((kd.toNat : Int) == 1) = false ∧ ((kd.toNat : Int) == 4) = false ∧ ((kd.toNat : Int) == 2) = true ∧ ((k : Int) == 0) = false) ∨ (((kd.toNat : Int) == 1) = false ∧ ((kd.toNat : Int) == 4) = false ∧ ((kd.toNat : Int) == 2) = false ∧ ((kd.toNat : Int) == 3) = true ∧ ((k : Int) == 0) = false)) (hl : ((pl : Int) == bl nn) = true) (lb : Int) (hlb : w.cell? ⟨g, n - pl + (pl - 1), none⟩ = some (.int .u8 lb)) (hp1 : 1 ≤ pl) (ht : 1 < lb) :
    Calls Yba.prog 8 #[.pointer (some ⟨pb, 0, none⟩), .slice (some ⟨g, 0, none⟩) n c] w (Rej w) := by
  have hplb : pl ≤ 1024 := by rw [← hpl]; exact G.hpl
  rcases hK with ⟨e1, e4, e2, ek⟩ | ⟨e1, e4, e2, e3, ek⟩
  all_goals
    have p0 := G.hp0
    have hpb := G.hpb
    go_enter Yba.func8, Yba.ntmps8
    go_wp2_with fail
    refine (frame_ok' g c kd bk ini mid k P pl _ G.hmid hk G.hpl hpl n G.hn G.hnc G.hcc (G.hmsg.below ((Below.refl w.heap.size w).alloc (Nat.le_refl _) _) G.hg) (by simp; have := G.hg; omega)).mono ?_
    rintro e w1 ⟨X, C, rfl, hX, hb1⟩
    have f0 := hb1.cell (p := ⟨w.heap.size, 0, none⟩) (by simp)
    have f1 := hb1.cell (p := ⟨w.heap.size, 1, none⟩) (by simp)
    have f2 := hb1.cell (p := ⟨w.heap.size, 2, none⟩) (by simp)
    have z0 := hb1.frozen (p := ⟨w.heap.size, 0, none⟩) (by simp)
    have z1 := hb1.frozen (p := ⟨w.heap.size, 1, none⟩) (by simp)
    have z2 := hb1.frozen (p := ⟨w.heap.size, 2, none⟩) (by simp)
    simp at f0 f1 f2 z0 z1 z2
    have q2 : w1.cell? ⟨pb, 2, none⟩ = some (.int .u64 agree) := (hb1.cell (p := ⟨pb, 2, none⟩) (by simp; omega)).trans ((World.cell?_alloc_past _ _ _ hpb).trans G.hp2)
    have hX' := hX (by omega)
    subst hX'
    have q3 : w1.cell? ⟨g, n - pl + (pl - 1), none⟩ = some (.int .u8 lb) := (hb1.cell (p := ⟨g, n - pl + (pl - 1), none⟩) (by simp; have := G.hg; omega)).trans ((World.cell?_alloc_past _ _ _ G.hg).trans hlb)
    have hgw : g < w.heap.size := G.hg
    go_wp2_with (go_at_call 19; refine (ballot_any _ _).mono ?_; rintro e w' ⟨rfl, rfl⟩)
    obtain ⟨w6, e6, b6, d0, d1, d2⟩ := six hb1 f0 f1 f2 (.int .u8 kd.toNat) (.int .i64 ini.toNat) (.int .i64 k) (.int .u8 0) (.int .i64 0) (.int .i64 0)
    rw [e6]
    refine bodyPost_ret (v := .tuple #[.agg #[.int .u8 0, .int .i64 0, .int .i64 0], .int .u8 0, .slice none 0 0, .bool false]) ?_ rfl ⟨rfl, b6⟩
    simp [results, Yba.results8, go_sem, d0, d1, d2]

set_option maxHeartbeats 1000000 in
set_option maxRecDepth 100000 in
theorem parse_last1_acc {w : World} {pb : Nat} {nn : Int} {agree g n c : Nat} {kd bk ini : UInt8} {mid k : Nat} {P : List UInt8} (G : Given w pb nn agree g n c kd bk ini mid k P) (pl : Nat) (hpl : P.length = pl) (hk : k ≤ 2147483647) (h1 : ((mid : Int) != (agree : Int)) = false) (h2 : ¬ (ini.toNat : Int) < 1) (h3 : ¬ nn < (ini.toNat : Int)) (hK : (((kd.toNat : Int) == 1) = true ∧ ((kd.toNat : Int) == 4) = false ∧ ((k : Int) == 0) = false) ∨ (((kd.toNat : Int) == 1) = false ∧ ((kd.toNat : Int) == 4) = true ∧ ((k : Int) == 0) = true)) (hl : ((pl : Int) == 1) = true) (lb : Int) (hlb : w.cell? ⟨g, n - pl + (pl - 1), none⟩ = some (.int .u8 lb)) (hp1 : 1 ≤ pl) (ht : ¬ 1 < lb) :
    Calls Yba.prog 8 #[.pointer (some ⟨pb, 0, none⟩), .slice (some ⟨g, 0, none⟩) n c] w (Acc w g n pl (.agg #[.int .u8 kd.toNat, .int .i64 ini.toNat, .int .i64 k]) (.int .u8 bk.toNat)) := by
  have hplb : pl ≤ 1024 := by rw [← hpl]; exact G.hpl
  rcases hK with ⟨e1, e4, ek⟩ | ⟨e1, e4, ek⟩
  all_goals
    have p0 := G.hp0
    have hpb := G.hpb
    go_enter Yba.func8, Yba.ntmps8
    go_wp2_with fail
    refine (frame_ok' g c kd bk ini mid k P pl _ G.hmid hk G.hpl hpl n G.hn G.hnc G.hcc (G.hmsg.below ((Below.refl w.heap.size w).alloc (Nat.le_refl _) _) G.hg) (by simp; have := G.hg; omega)).mono ?_
    rintro e w1 ⟨X, C, rfl, hX, hb1⟩
    have f0 := hb1.cell (p := ⟨w.heap.size, 0, none⟩) (by simp)
    have f1 := hb1.cell (p := ⟨w.heap.size, 1, none⟩) (by simp)
    have f2 := hb1.cell (p := ⟨w.heap.size, 2, none⟩) (by simp)
    have z0 := hb1.frozen (p := ⟨w.heap.size, 0, none⟩) (by simp)
    have z1 := hb1.frozen (p := ⟨w.heap.size, 1, none⟩) (by simp)
    have z2 := hb1.frozen (p := ⟨w.heap.size, 2, none⟩) (by simp)
    simp at f0 f1 f2 z0 z1 z2
    have q2 : w1.cell? ⟨pb, 2, none⟩ = some (.int .u64 agree) := (hb1.cell (p := ⟨pb, 2, none⟩) (by simp; omega)).trans ((World.cell?_alloc_past _ _ _ hpb).trans G.hp2)
    have hX' := hX (by omega)
    subst hX'
    have q3 : w1.cell? ⟨g, n - pl + (pl - 1), none⟩ = some (.int .u8 lb) := (hb1.cell (p := ⟨g, n - pl + (pl - 1), none⟩) (by simp; have := G.hg; omega)).trans ((World.cell?_alloc_past _ _ _ G.hg).trans hlb)
    have hgw : g < w.heap.size := G.hg
    go_wp2
    obtain ⟨w6, e6, b6, d0, d1, d2⟩ := six hb1 f0 f1 f2 (.int .u8 kd.toNat) (.int .i64 ini.toNat) (.int .i64 k) (.int .u8 kd.toNat) (.int .i64 ini.toNat) (.int .i64 k)
    rw [e6]
    refine bodyPost_ret (v := .tuple #[.agg #[.int .u8 kd.toNat, .int .i64 ini.toNat, .int .i64 k], .int .u8 bk.toNat, .slice (some ⟨g, n - pl, none⟩) pl C, .bool true]) ?_ rfl ⟨_, _, rfl, fun _ => rfl, b6⟩
    simp [results, Yba.results8, go_sem, d0, d1, d2]

set_option maxHeartbeats 1000000 in
set_option maxRecDepth 100000 in
theorem parse_last2_acc {w : World} {pb : Nat} {nn : Int} {agree g n c : Nat} {kd bk ini : UInt8} {mid k : Nat} {P : List UInt8} (G : Given w pb nn agree g n c kd bk ini mid k P) (pl : Nat) (hpl : P.length = pl) (hk : k ≤ 2147483647) (h1 : ((mid : Int) != (agree : Int)) = false) (h2 : ¬ (ini.toNat : Int) < 1) (h3 : ¬ nn < (ini.toNat : Int)) (hK : (((kd.toNat : Int) == 1) = false ∧ ((kd.toNat : Int) == 4) = false ∧ ((kd.toNat : Int) == 2) = true ∧ ((k : Int) == 0) = false) ∨ (((kd.toNat : Int) == 1) = false ∧ ((kd.toNat : Int) == 4) = false ∧ ((kd.toNat : Int) == 2) = false ∧ ((kd.toNat : Int) == 3) = true ∧ ((k : Int) == 0) = false)) (hl : ((pl : Int) == bl nn) = true) (lb : Int) (hlb : w.cell? ⟨g, n - pl + (pl - 1), none⟩ = some (.int .u8 lb)) (hp1 : 1 ≤ pl) (ht : ¬ 1 < lb) :
    Calls Yba.prog 8 #[.pointer (some ⟨pb, 0, none⟩), .slice (some ⟨g, 0, none⟩) n c] w (Acc w g n pl (.agg #[.int .u8 kd.toNat, .int .i64 ini.toNat, .int .i64 k]) (.int .u8 bk.toNat)) := by
  have hplb : pl ≤ 1024 := by rw [← hpl]; exact G.hpl
  rcases hK with ⟨e1, e4, e2, ek⟩ | ⟨e1, e4, e2, e3, ek⟩
  all_goals
    have p0 := G.hp0
    have hpb := G.hpb
    go_enter Yba.func8, Yba.ntmps8
    go_wp2_with fail
    refine (frame_ok' g c kd bk ini mid k P pl _ G.hmid hk G.hpl hpl n G.hn G.hnc G.hcc (G.hmsg.below ((Below.refl w.heap.size w).alloc (Nat.le_refl _) _) G.hg) (by simp; have := G.hg; omega)).mono ?_
    rintro e w1 ⟨X, C, rfl, hX, hb1⟩
    have f0 := hb1.cell (p := ⟨w.heap.size, 0, none⟩) (by simp)
    have f1 := hb1.cell (p := ⟨w.heap.size, 1, none⟩) (by simp)
    have f2 := hb1.cell (p := ⟨w.heap.size, 2, none⟩) (by simp)
    have z0 := hb1.frozen (p := ⟨w.heap.size, 0, none⟩) (by simp)
    have z1 := hb1.frozen (p := ⟨w.heap.size, 1, none⟩) (by simp)
    have z2 := hb1.frozen (p := ⟨w.heap.size, 2, none⟩) (by simp)
    simp at f0 f1 f2 z0 z1 z2
    have q2 : w1.cell? ⟨pb, 2, none⟩ = some (.int .u64 agree) := (hb1.cell (p := ⟨pb, 2, none⟩) (by simp; omega)).trans ((World.cell?_alloc_past _ _ _ hpb).trans G.hp2)
    have hX' := hX (by omega)
    subst hX'
    have q3 : w1.cell? ⟨g, n - pl + (pl - 1), none⟩ = some (.int .u8 lb) := (hb1.cell (p := ⟨g, n - pl + (pl - 1), none⟩) (by simp; have := G.hg; omega)).trans ((World.cell?_alloc_past _ _ _ G.hg).trans hlb)
    have hgw : g < w.heap.size := G.hg
    go_wp2_with (go_at_call 19; refine (ballot_any _ _).mono ?_; rintro e w' ⟨rfl, rfl⟩)
    obtain ⟨w6, e6, b6, d0, d1, d2⟩ := six hb1 f0 f1 f2 (.int .u8 kd.toNat) (.int .i64 ini.toNat) (.int .i64 k) (.int .u8 kd.toNat) (.int .i64 ini.toNat) (.int .i64 k)
    rw [e6]
    refine bodyPost_ret (v := .tuple #[.agg #[.int .u8 kd.toNat, .int .i64 ini.toNat, .int .i64 k], .int .u8 bk.toNat, .slice (some ⟨g, n - pl, none⟩) pl C, .bool true]) ?_ rfl ⟨_, _, rfl, fun _ => rfl, b6⟩
    simp [results, Yba.results8, go_sem, d0, d1, d2]

end Go.Proofs.Ybulkhjc.Fr
