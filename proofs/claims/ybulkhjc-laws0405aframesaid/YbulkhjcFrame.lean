import Derived.Test.YbulkhjcRows
import Derived.Test.YbulkhjcShelf
import Derived.Test.YbulkhjcVarint
import Derived.WalkKit
import Derived.WalkLawsBesides
import Derived.Below
namespace Go.Proofs.Ybulkhjc.Fr
open Go.RowKit Go.Lib

def msg (kd bk ini : UInt8) (mid k : Nat) (P : List UInt8) : List UInt8 := kd :: bk :: ini :: (uvarint mid ++ (uvarint k ++ P))
theorem msg_len (kd bk ini : UInt8) (mid k : Nat) (P : List UInt8) : (msg kd bk ini mid k P).length = 3 + (uvarint mid).length + (uvarint k).length + P.length := by
  simp [msg]; omega

/-- the bytes l lie at block g from o on -/
def At (w : World) (g o : Nat) (l : List UInt8) : Prop := ∀ j (hj : j < l.length), w.cell? ⟨g, o + j, none⟩ = some (.int .u8 (l[j]).toNat)

theorem At.drop {w : World} {g o : Nat} {l : List UInt8} (h : At w g o l) (d : Nat) : At w g (o + d) (l.drop d) := fun j hj => by
  have hj' : d + j < l.length := by simp at hj; omega
  have := h (d + j) hj'
  rw [Nat.add_assoc]
  simpa using this

theorem At.below {w w' : World} {g o B : Nat} {l : List UInt8} (h : At w g o l) (hb : Below B w w') (hg : g < B) : At w' g o l := fun j hj => (hb.cell (p := ⟨g, o + j, none⟩) hg).trans (h j hj)

/-- what frame hands back of a message that it takes -/
def FrOk (w : World) (g n pl : Nat) (tg kv iv : Value) (e : Ending) (w' : World) : Prop :=
  ∃ X C, e = .returned (.tuple #[tg, kv, iv, .slice X pl C, .bool true]) ∧ (0 < pl → X = some ⟨g, n - pl, none⟩) ∧ Below w.heap.size w w'
theorem FrOk.mk {w w' : World} {g n pl l : Nat} {tg kv iv : Value} {X : Option Addr} {C : Nat} (hl : l = pl) (hX : 0 < pl → X = some ⟨g, n - pl, none⟩) (hb : Below w.heap.size w w') :
    FrOk w g n pl tg kv iv (.returned (.tuple #[tg, kv, iv, .slice X l C, .bool true])) w' := ⟨X, C, by rw [hl], hX, hb⟩

theorem uvarint_at (g o n c x a : Nat) (r : List UInt8) (w : World) (hx : x < 18446744073709551616) (ha : (uvarint x).length = a) (hn : n = a + r.length) (hat : At w g o (uvarint x ++ r)) :
    Calls Yba.prog 23 #[.slice (some ⟨g, o, none⟩) n c] w fun e w' => e = .returned (.tuple #[.int .u64 x, .int .i64 (a : Nat)]) ∧ w' = w := by
  refine (Yba.binary_Uvarint g o n c (uvarint x ++ r) w (by simp [hn, ha]) hat).mono ?_
  rintro e w' ⟨rfl, rfl⟩
  rw [dec_enc x hx r, ha]
  exact ⟨rfl, rfl⟩

set_option maxRecDepth 100000 in
theorem frame_ok (g c : Nat) (kd bk ini : UInt8) (mid k : Nat) (P : List UInt8) (w : World) (hm : mid < 18446744073709551616) (hk : k ≤ 2147483647) (hP : P.length ≤ 1024) (n : Nat) (hn : n = (msg kd bk ini mid k P).length) (hc : n ≤ c) (hc2 : c ≤ 9223372036854775807)
    (hat : At w g 0 (msg kd bk ini mid k P)) (hg : g < w.heap.size) :
    Calls Yba.prog 18 #[.slice (some ⟨g, 0, none⟩) n c] w (FrOk w g n P.length (.agg #[.int .u8 kd.toNat, .int .i64 ini.toNat, .int .i64 k]) (.int .u8 bk.toNat) (.int .u64 mid)) := by
  obtain ⟨a1, ha1⟩ : ∃ a, (uvarint mid).length = a := ⟨_, rfl⟩
  obtain ⟨a2, ha2⟩ : ∃ a, (uvarint k).length = a := ⟨_, rfl⟩
  obtain ⟨pl, hpl⟩ : ∃ a, P.length = a := ⟨_, rfl⟩
  have hat1 : At w g 3 (uvarint mid ++ (uvarint k ++ P)) := by simpa [msg] using hat.drop 3
  have hat2 : At w g (3 + a1) (uvarint k ++ P) := by rw [← ha1]; simpa using hat1.drop (uvarint mid).length
  have l1 := uvarint_pos mid
  have l1' := uvarint_length64 hm
  have l2 := uvarint_pos k
  have l2' := uvarint_length64 (x := k) (by omega)
  have hlen := msg_len kd bk ini mid k P
  rw [ha1] at l1 l1' hlen
  rw [ha2] at l2 l2' hlen
  have HPL : Hid (P.length = pl) := hpl
  rw [hpl] at hlen hP ⊢
  have HA1 : Hid ((uvarint mid).length = a1) := ha1
  have HA2 : Hid ((uvarint k).length = a2) := ha2
  have hn3 : ¬ (n : Int) < 3 := by omega
  have c0 : w.cell? ⟨g, 0, none⟩ = some (.int .u8 kd.toNat) := hat 0 (by omega)
  have c1 : w.cell? ⟨g, 1, none⟩ = some (.int .u8 bk.toNat) := hat 1 (by omega)
  have c2 : w.cell? ⟨g, 2, none⟩ = some (.int .u8 ini.toNat) := hat 2 (by omega)
  have hn' : 3 + a1 + a2 + pl ≤ n := by omega
  have hn'' : n ≤ 3 + a1 + a2 + pl := by omega
  have hi0 : (0 : Int) < (n : Int) := by omega
  have hi1 : (1 : Int) < (n : Int) := by omega
  have hi2 : (2 : Int) < (n : Int) := by omega
  have hini : (ini.toNat : Int) ≤ 255 := by have := ini.toNat_lt; omega
  have h3c : 3 < c := by omega
  have h4c : 3 + a1 < c := by omega
  have HT1 : Hid (At w g 3 (uvarint mid ++ (uvarint k ++ P))) := hat1
  have HT2 : Hid (At w g (3 + a1) (uvarint k ++ P)) := hat2
  clear hn hlen hat hat1 hat2 ha1 ha2 hpl
  go_enter Yba.func18, Yba.ntmps18
  go_wp2
  go_region
  go_wp2_with fail
  refine (uvarint_at g 3 (n - 3) _ mid a1 (uvarint k ++ P) _ hm HA1.out (by simp [HPL.out, HA2.out]; omega) (HT1.out.below (((Below.refl w.heap.size w).alloc (Nat.le_refl _) _).drew) hg)).mono ?_
  rintro e w' ⟨rfl, rfl⟩
  go_wp2_with fail
  refine (uvarint_at g (3 + a1) (n - (3 + a1)) _ k a2 P _ (by omega) HA2.out (by rw [HPL.out]; omega) (HT2.out.below (((Below.refl w.heap.size w).alloc (Nat.le_refl _) _).drew) hg)).mono ?_
  rintro e w' ⟨rfl, rfl⟩
  go_wp2
  go_region
  go_wp2
  · refine bodyPost_ret (v := .tuple #[.agg #[.int .u8 kd.toNat, .int .i64 ini.toNat, .int .i64 k], .int .u8 bk.toNat, .int .u64 mid, .slice (some ⟨g, 3 + a1, none⟩) (n - (3 + a1) - a2) 0, .bool true]) ?_ rfl ?_
    · simp [results, Yba.results18, go_sem]
    · refine FrOk.mk (by omega) (fun h => by omega) ?_
      exact ((Below.refl _ _).alloc (Nat.le_refl _) _).drew.drew
  · refine bodyPost_ret (v := .tuple #[.agg #[.int .u8 kd.toNat, .int .i64 ini.toNat, .int .i64 k], .int .u8 bk.toNat, .int .u64 mid, .slice (some ⟨g, 3 + a1 + a2, none⟩) (n - (3 + a1) - a2) (c - (3 + a1) - a2), .bool true]) ?_ rfl ?_
    · simp [results, Yba.results18, go_sem]
    · refine FrOk.mk (by omega) (fun h => by rw [show 3 + a1 + a2 = n - pl from by omega]) ?_
      exact ((Below.refl _ _).alloc (Nat.le_refl _) _).drew.drew

set_option maxRecDepth 100000 in
theorem frame_big (g c : Nat) (kd bk ini : UInt8) (mid k : Nat) (P : List UInt8) (w : World) (hm : mid < 18446744073709551616) (hk : 2147483647 < k) (hk2 : k < 18446744073709551616) (hP : P.length ≤ 1024) (n : Nat) (hn : n = (msg kd bk ini mid k P).length) (hc : n ≤ c) (hc2 : c ≤ 9223372036854775807)
    (hat : At w g 0 (msg kd bk ini mid k P)) (hg : g < w.heap.size) :
    Calls Yba.prog 18 #[.slice (some ⟨g, 0, none⟩) n c] w fun e w' => e = .returned (.tuple #[.agg #[.int .u8 0, .int .i64 0, .int .i64 0], .int .u8 0, .int .u64 0, .slice none 0 0, .bool false]) ∧ Below w.heap.size w w' := by
  obtain ⟨a1, ha1⟩ : ∃ a, (uvarint mid).length = a := ⟨_, rfl⟩
  obtain ⟨a2, ha2⟩ : ∃ a, (uvarint k).length = a := ⟨_, rfl⟩
  obtain ⟨pl, hpl⟩ : ∃ a, P.length = a := ⟨_, rfl⟩
  have hat1 : At w g 3 (uvarint mid ++ (uvarint k ++ P)) := by simpa [msg] using hat.drop 3
  have hat2 : At w g (3 + a1) (uvarint k ++ P) := by rw [← ha1]; simpa using hat1.drop (uvarint mid).length
  have l1 := uvarint_pos mid
  have l1' := uvarint_length64 hm
  have l2 := uvarint_pos k
  have l2' := uvarint_length64 (x := k) (by omega)
  have hlen := msg_len kd bk ini mid k P
  rw [ha1] at l1 l1' hlen
  rw [ha2] at l2 l2' hlen
  have HPL : Hid (P.length = pl) := hpl
  rw [hpl] at hlen hP
  have HA1 : Hid ((uvarint mid).length = a1) := ha1
  have HA2 : Hid ((uvarint k).length = a2) := ha2
  have hn3 : ¬ (n : Int) < 3 := by omega
  have c0 : w.cell? ⟨g, 0, none⟩ = some (.int .u8 kd.toNat) := hat 0 (by omega)
  have c1 : w.cell? ⟨g, 1, none⟩ = some (.int .u8 bk.toNat) := hat 1 (by omega)
  have c2 : w.cell? ⟨g, 2, none⟩ = some (.int .u8 ini.toNat) := hat 2 (by omega)
  have hn' : 3 + a1 + a2 + pl ≤ n := by omega
  have hn'' : n ≤ 3 + a1 + a2 + pl := by omega
  have hi0 : (0 : Int) < (n : Int) := by omega
  have hi1 : (1 : Int) < (n : Int) := by omega
  have hi2 : (2 : Int) < (n : Int) := by omega
  have hini : (ini.toNat : Int) ≤ 255 := by have := ini.toNat_lt; omega
  have h3c : 3 < c := by omega
  have h4c : 3 + a1 < c := by omega
  have HT1 : Hid (At w g 3 (uvarint mid ++ (uvarint k ++ P))) := hat1
  have HT2 : Hid (At w g (3 + a1) (uvarint k ++ P)) := hat2
  clear hn hlen hat hat1 hat2 ha1 ha2 hpl
  go_enter Yba.func18, Yba.ntmps18
  go_wp2
  go_region
  go_wp2_with fail
  refine (uvarint_at g 3 (n - 3) _ mid a1 (uvarint k ++ P) _ hm HA1.out (by simp [HPL.out, HA2.out]; omega) (HT1.out.below (((Below.refl w.heap.size w).alloc (Nat.le_refl _) _).drew) hg)).mono ?_
  rintro e w' ⟨rfl, rfl⟩
  go_wp2_with fail
  refine (uvarint_at g (3 + a1) (n - (3 + a1)) _ k a2 P _ (by omega) HA2.out (by rw [HPL.out]; omega) (HT2.out.below (((Below.refl w.heap.size w).alloc (Nat.le_refl _) _).drew) hg)).mono ?_
  rintro e w' ⟨rfl, rfl⟩
  go_wp2
  exact bodyPost_ret (v := .tuple #[.agg #[.int .u8 0, .int .i64 0, .int .i64 0], .int .u8 0, .int .u64 0, .slice none 0 0, .bool false]) (by simp [results, Yba.results18, go_sem]) rfl ⟨rfl, ((Below.refl _ _).alloc (Nat.le_refl _) _).drew⟩

end Go.Proofs.Ybulkhjc.Fr
