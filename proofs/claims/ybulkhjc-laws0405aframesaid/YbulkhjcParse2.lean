import Derived.Test.YbulkhjcParse1
namespace Go.Proofs.Ybulkhjc.Fr
open Go.RowKit Go.Lib
theorem frame_ok' (g c : Nat) (kd bk ini : UInt8) (mid k : Nat) (P : List UInt8) (pl : Nat) (w : World) (hm : mid < 18446744073709551616) (hk : k ≤ 2147483647) (hP : P.length ≤ 1024) (hpl : P.length = pl) (n : Nat) (hn : n = (msg kd bk ini mid k P).length) (hc : n ≤ c) (hc2 : c ≤ 9223372036854775807)
    (hat : At w g 0 (msg kd bk ini mid k P)) (hg : g < w.heap.size) :
    Calls Yba.prog 18 #[.slice (some ⟨g, 0, none⟩) n c] w (FrOk w g n pl (.agg #[.int .u8 kd.toNat, .int .i64 ini.toNat, .int .i64 k]) (.int .u8 bk.toNat) (.int .u64 mid)) := by
  subst hpl
  exact frame_ok g c kd bk ini mid k P w hm hk hP n hn hc hc2 hat hg

set_option maxHeartbeats 1000000 in
set_option maxRecDepth 100000 in
theorem parse_mix {w : World} {pb : Nat} {nn : Int} {agree g n c : Nat} {kd bk ini : UInt8} {mid k : Nat} {P : List UInt8} (G : Given w pb nn agree g n c kd bk ini mid k P) (pl : Nat) (hpl : P.length = pl) (hk : k ≤ 2147483647) (h1 : ((mid : Int) != (agree : Int)) = false) (h2 : ¬ (ini.toNat : Int) < 1) (h3 : ¬ nn < (ini.toNat : Int)) (hK : (((kd.toNat : Int) == 4) = false ∧ ((k : Int) == 0) = true) ∨ (((kd.toNat : Int) == 4) = true ∧ ((k : Int) == 0) = false)) :
    Calls Yba.prog 8 #[.pointer (some ⟨pb, 0, none⟩), .slice (some ⟨g, 0, none⟩) n c] w (Rej w) := by
  have hplb : pl ≤ 1024 := by rw [← hpl]; exact G.hpl
  rcases hK with ⟨e4, ek⟩ | ⟨e4, ek⟩
  all_goals
    have p0 := G.hp0
    have hpb := G.hpb
    go_enter Yba.func8, Yba.ntmps8
    go_wp2_with fail
    refine (frame_ok' g c kd bk ini mid k P pl _ G.hmid hk G.hpl hpl n G.hn G.hnc G.hcc (G.hmsg.below ((Below.refl w.heap.size w).alloc (Nat.le_refl _) _) G.hg) (by simp; have := G.hg; omega)).mono ?_
    rintro e w1 ⟨X, C, rfl, hX, hb1⟩
    have f0 := hb1.cell (p := ⟨w.heap.size, 0, none⟩) (by simp)
    have f1 := hb1.cell (p := ⟨w.heap.size, 1, none⟩) (by simp)
    have f2 := hb1.cell (p := ⟨w.heap.size, 2, none⟩) (by simp)
    have z0 := hb1.frozen (p := ⟨w.heap.size, 0, none⟩) (by simp)
    have z1 := hb1.frozen (p := ⟨w.heap.size, 1, none⟩) (by simp)
    have z2 := hb1.frozen (p := ⟨w.heap.size, 2, none⟩) (by simp)
    simp at f0 f1 f2 z0 z1 z2
    have q2 : w1.cell? ⟨pb, 2, none⟩ = some (.int .u64 agree) := (hb1.cell (p := ⟨pb, 2, none⟩) (by simp; omega)).trans ((World.cell?_alloc_past _ _ _ hpb).trans G.hp2)
    go_wp2
    obtain ⟨w6, e6, b6, d0, d1, d2⟩ := six hb1 f0 f1 f2 (.int .u8 kd.toNat) (.int .i64 ini.toNat) (.int .i64 k) (.int .u8 0) (.int .i64 0) (.int .i64 0)
    rw [e6]
    refine bodyPost_ret (v := .tuple #[.agg #[.int .u8 0, .int .i64 0, .int .i64 0], .int .u8 0, .slice none 0 0, .bool false]) ?_ rfl ⟨rfl, b6⟩
    simp [results, Yba.results8, go_sem, d0, d1, d2]

set_option maxHeartbeats 1000000 in
set_option maxRecDepth 100000 in
theorem parse_kind {w : World} {pb : Nat} {nn : Int} {agree g n c : Nat} {kd bk ini : UInt8} {mid k : Nat} {P : List UInt8} (G : Given w pb nn agree g n c kd bk ini mid k P) (pl : Nat) (hpl : P.length = pl) (hk : k ≤ 2147483647) (h1 : ((mid : Int) != (agree : Int)) = false) (h2 : ¬ (ini.toNat : Int) < 1) (h3 : ¬ nn < (ini.toNat : Int)) (e1 : ((kd.toNat : Int) == 1) = false) (e2 : ((kd.toNat : Int) == 2) = false) (e3 : ((kd.toNat : Int) == 3) = false) (e4 : ((kd.toNat : Int) == 4) = false) (ek : ((k : Int) == 0) = false) :
    Calls Yba.prog 8 #[.pointer (some ⟨pb, 0, none⟩), .slice (some ⟨g, 0, none⟩) n c] w (Rej w) := by
  have hplb : pl ≤ 1024 := by rw [← hpl]; exact G.hpl
  have p0 := G.hp0
  have hpb := G.hpb
  go_enter Yba.func8, Yba.ntmps8
  go_wp2_with fail
  refine (frame_ok' g c kd bk ini mid k P pl _ G.hmid hk G.hpl hpl n G.hn G.hnc G.hcc (G.hmsg.below ((Below.refl w.heap.size w).alloc (Nat.le_refl _) _) G.hg) (by simp; have := G.hg; omega)).mono ?_
  rintro e w1 ⟨X, C, rfl, hX, hb1⟩
  have f0 := hb1.cell (p := ⟨w.heap.size, 0, none⟩) (by simp)
  have f1 := hb1.cell (p := ⟨w.heap.size, 1, none⟩) (by simp)
  have f2 := hb1.cell (p := ⟨w.heap.size, 2, none⟩) (by simp)
  have z0 := hb1.frozen (p := ⟨w.heap.size, 0, none⟩) (by simp)
  have z1 := hb1.frozen (p := ⟨w.heap.size, 1, none⟩) (by simp)
  have z2 := hb1.frozen (p := ⟨w.heap.size, 2, none⟩) (by simp)
  simp at f0 f1 f2 z0 z1 z2
  have q2 : w1.cell? ⟨pb, 2, none⟩ = some (.int .u64 agree) := (hb1.cell (p := ⟨pb, 2, none⟩) (by simp; omega)).trans ((World.cell?_alloc_past _ _ _ hpb).trans G.hp2)
  go_wp2
  obtain ⟨w6, e6, b6, d0, d1, d2⟩ := six hb1 f0 f1 f2 (.int .u8 kd.toNat) (.int .i64 ini.toNat) (.int .i64 k) (.int .u8 0) (.int .i64 0) (.int .i64 0)
  rw [e6]
  refine bodyPost_ret (v := .tuple #[.agg #[.int .u8 0, .int .i64 0, .int .i64 0], .int .u8 0, .slice none 0 0, .bool false]) ?_ rfl ⟨rfl, b6⟩
  simp [results, Yba.results8, go_sem, d0, d1, d2]

set_option maxHeartbeats 1000000 in
set_option maxRecDepth 100000 in
theorem parse_len1 {w : World} {pb : Nat} {nn : Int} {agree g n c : Nat} {kd bk ini : UInt8} {mid k : Nat} {P : List UInt8} (G : Given w pb nn agree g n c kd bk ini mid k P) (pl : Nat) (hpl : P.length = pl) (hk : k ≤ 2147483647) (h1 : ((mid : Int) != (agree : Int)) = false) (h2 : ¬ (ini.toNat : Int) < 1) (h3 : ¬ nn < (ini.toNat : Int)) (hK : (((kd.toNat : Int) == 1) = true ∧ ((kd.toNat : Int) == 4) = false ∧ ((k : Int) == 0) = false) ∨ (((kd.toNat : Int) == 1) = false ∧ ((kd.toNat : Int) == 4) = true ∧ ((k : Int) == 0) = true)) (hl : ((pl : Int) == 1) = false) :
    Calls Yba.prog 8 #[.pointer (some ⟨pb, 0, none⟩), .slice (some ⟨g, 0, none⟩) n c] w (Rej w) := by
  have hplb : pl ≤ 1024 := by rw [← hpl]; exact G.hpl
  rcases hK with ⟨e1, e4, ek⟩ | ⟨e1, e4, ek⟩
  all_goals
    have p0 := G.hp0
    have hpb := G.hpb
    go_enter Yba.func8, Yba.ntmps8
    go_wp2_with fail
    refine (frame_ok' g c kd bk ini mid k P pl _ G.hmid hk G.hpl hpl n G.hn G.hnc G.hcc (G.hmsg.below ((Below.refl w.heap.size w).alloc (Nat.le_refl _) _) G.hg) (by simp; have := G.hg; omega)).mono ?_
    rintro e w1 ⟨X, C, rfl, hX, hb1⟩
    have f0 := hb1.cell (p := ⟨w.heap.size, 0, none⟩) (by simp)
    have f1 := hb1.cell (p := ⟨w.heap.size, 1, none⟩) (by simp)
    have f2 := hb1.cell (p := ⟨w.heap.size, 2, none⟩) (by simp)
    have z0 := hb1.frozen (p := ⟨w.heap.size, 0, none⟩) (by simp)
    have z1 := hb1.frozen (p := ⟨w.heap.size, 1, none⟩) (by simp)
    have z2 := hb1.frozen (p := ⟨w.heap.size, 2, none⟩) (by simp)
    simp at f0 f1 f2 z0 z1 z2
    have q2 : w1.cell? ⟨pb, 2, none⟩ = some (.int .u64 agree) := (hb1.cell (p := ⟨pb, 2, none⟩) (by simp; omega)).trans ((World.cell?_alloc_past _ _ _ hpb).trans G.hp2)
    go_wp2
    obtain ⟨w6, e6, b6, d0, d1, d2⟩ := six hb1 f0 f1 f2 (.int .u8 kd.toNat) (.int .i64 ini.toNat) (.int .i64 k) (.int .u8 0) (.int .i64 0) (.int .i64 0)
    rw [e6]
    refine bodyPost_ret (v := .tuple #[.agg #[.int .u8 0, .int .i64 0, .int .i64 0], .int .u8 0, .slice none 0 0, .bool false]) ?_ rfl ⟨rfl, b6⟩
    simp [results, Yba.results8, go_sem, d0, d1, d2]

set_option maxHeartbeats 1000000 in
set_option maxRecDepth 100000 in
theorem parse_len2 {w : World} {pb : Nat} {nn : Int} {agree g n c : Nat} {kd bk ini : UInt8} {mid k : Nat} {P : List UInt8} (G : Given w pb nn agree g n c kd bk ini mid k P) (pl : Nat) (hpl : P.length = pl) (hk : k ≤ 2147483647) (h1 : ((mid : Int) != (agree : Int)) = false) (h2 : ¬ (ini.toNat : Int) < 1) (h3 : ¬ nn < (ini.toNat : Int)) (hK : (((kd.toNat : Int) == 1) = false ∧ ((kd.toNat : Int) == 4) = false ∧ ((kd.toNat : Int) == 2) = true ∧ ((k : Int) == 0) = false) ∨ (((kd.toNat : Int) == 1) = false ∧ ((kd.toNat : Int) == 4) = false ∧ ((kd.toNat : Int) == 2) = false ∧ ((kd.toNat : Int) == 3) = true ∧ ((k : Int) == 0) = false)) (hl : ((pl : Int) == bl nn) = false) :
    Calls Yba.prog 8 #[.pointer (some ⟨pb, 0, none⟩), .slice (some ⟨g, 0, none⟩) n c] w (Rej w) := by
  have hplb : pl ≤ 1024 := by rw [← hpl]; exact G.hpl
  rcases hK with ⟨e1, e4, e2, ek⟩ | ⟨e1, e4, e2, e3, ek⟩
  all_goals
    have p0 := G.hp0
    have hpb := G.hpb
    go_enter Yba.func8, Yba.ntmps8
    go_wp2_with fail
    refine (frame_ok' g c kd bk ini mid k P pl _ G.hmid hk G.hpl hpl n G.hn G.hnc G.hcc (G.hmsg.below ((Below.refl w.heap.size w).alloc (Nat.le_refl _) _) G.hg) (by simp; have := G.hg; omega)).mono ?_
    rintro e w1 ⟨X, C, rfl, hX, hb1⟩
    have f0 := hb1.cell (p := ⟨w.heap.size, 0, none⟩) (by simp)
    have f1 := hb1.cell (p := ⟨w.heap.size, 1, none⟩) (by simp)
    have f2 := hb1.cell (p := ⟨w.heap.size, 2, none⟩) (by simp)
    have z0 := hb1.frozen (p := ⟨w.heap.size, 0, none⟩) (by simp)
    have z1 := hb1.frozen (p := ⟨w.heap.size, 1, none⟩) (by simp)
    have z2 := hb1.frozen (p := ⟨w.heap.size, 2, none⟩) (by simp)
    simp at f0 f1 f2 z0 z1 z2
    have q2 : w1.cell? ⟨pb, 2, none⟩ = some (.int .u64 agree) := (hb1.cell (p := ⟨pb, 2, none⟩) (by simp; omega)).trans ((World.cell?_alloc_past _ _ _ hpb).trans G.hp2)
    go_wp2_with (go_at_call 19; refine (ballot_any _ _).mono ?_; rintro e w' ⟨rfl, rfl⟩)
    obtain ⟨w6, e6, b6, d0, d1, d2⟩ := six hb1 f0 f1 f2 (.int .u8 kd.toNat) (.int .i64 ini.toNat) (.int .i64 k) (.int .u8 0) (.int .i64 0) (.int .i64 0)
    rw [e6]
    refine bodyPost_ret (v := .tuple #[.agg #[.int .u8 0, .int .i64 0, .int .i64 0], .int .u8 0, .slice none 0 0, .bool false]) ?_ rfl ⟨rfl, b6⟩
    simp [results, Yba.results8, go_sem, d0, d1, d2]

end Go.Proofs.Ybulkhjc.Fr
