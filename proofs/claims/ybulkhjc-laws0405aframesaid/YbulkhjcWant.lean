import Derived.Test.YbulkhjcPay
namespace Go.Proofs.Ybulkhjc.Fr
open Go.RowKit Go.Lib

theorem bl_pos {nn : Int} {pl : Nat} (h0 : 1 ≤ nn) (h1 : nn ≤ 9223372036854775807) (h : (pl : Int) = bl nn) : 1 ≤ pl := by
  unfold bl at h
  by_cases hs : nn + 7 ≤ 9223372036854775807
  · rw [IntWalk.wrap64_in (nn + 7) ⟨by omega, hs⟩, Int.tdiv_eq_ediv_of_nonneg (by omega), IntWalk.wrap64_in ((nn + 7) / 8) ⟨by omega, by omega⟩, IntWalk.wrap64_in _ ⟨by omega, by omega⟩] at h
    omega
  · exfalso
    have e1 : wrap64 (nn + 7) = nn + 7 - 18446744073709551616 := by unfold wrap64; omega
    rw [e1] at h
    obtain ⟨m, hm⟩ : ∃ m : Int, nn + 7 - 18446744073709551616 = -m := ⟨18446744073709551616 - (nn + 7), by omega⟩
    rw [hm, Int.neg_tdiv, Int.tdiv_eq_ediv_of_nonneg (by omega), IntWalk.wrap64_in (-(m / 8)) ⟨by omega, by omega⟩, IntWalk.wrap64_in _ ⟨by omega, by omega⟩] at h
    omega

/-- which messages are taken -/
def Want (nn : Int) (mid agree ini kd k pl : Nat) (lb : Int) : Prop :=
  mid = agree ∧ 1 ≤ ini ∧ (ini : Int) ≤ nn ∧ k ≤ 2147483647 ∧ (k = 0 ↔ kd = 4) ∧ (((kd = 1 ∨ kd = 4) ∧ pl = 1) ∨ ((kd = 2 ∨ kd = 3) ∧ (pl : Int) = bl nn)) ∧ 1 ≤ pl ∧ ¬ 1 < lb

/-- parse, whole -/
def Parsed (w : World) (nn : Int) (mid agree ini kd k pl : Nat) (lb : Int) (g n : Nat) (bk : Nat) (e : Ending) (w' : World) : Prop :=
  (Want nn mid agree ini kd k pl lb ∧ Acc w g n pl (.agg #[.int .u8 kd, .int .i64 ini, .int .i64 k]) (.int .u8 bk) e w') ∨ (¬ Want nn mid agree ini kd k pl lb ∧ Rej w e w')

theorem beq_t {a b : Int} (h : a = b) : (a == b) = true := by simp [h]
theorem beq_f {a b : Int} (h : a ≠ b) : (a == b) = false := by simp [h]

theorem parse_any {w : World} {pb : Nat} {nn : Int} {agree g n c : Nat} {kd bk ini : UInt8} {mid k : Nat} {P : List UInt8} (G : Given w pb nn agree g n c kd bk ini mid k P) (pl : Nat) (hpl : P.length = pl) (h1 : nn ≤ 9223372036854775807)
    (lb : Int) (hlb : 1 ≤ pl → w.cell? ⟨g, n - pl + (pl - 1), none⟩ = some (.int .u8 lb)) :
    Calls Yba.prog 8 #[.pointer (some ⟨pb, 0, none⟩), .slice (some ⟨g, 0, none⟩) n c] w (Parsed w nn mid agree ini.toNat kd.toNat k pl lb g n bk.toNat) := by
  have rej : ∀ (h : ¬ Want nn mid agree ini.toNat kd.toNat k pl lb), Calls Yba.prog 8 #[.pointer (some ⟨pb, 0, none⟩), .slice (some ⟨g, 0, none⟩) n c] w (Rej w) → Calls Yba.prog 8 #[.pointer (some ⟨pb, 0, none⟩), .slice (some ⟨g, 0, none⟩) n c] w (Parsed w nn mid agree ini.toNat kd.toNat k pl lb g n bk.toNat) :=
    fun h hc => hc.mono fun e w' hr => .inr ⟨h, hr⟩
  have acc : ∀ (h : Want nn mid agree ini.toNat kd.toNat k pl lb), Calls Yba.prog 8 #[.pointer (some ⟨pb, 0, none⟩), .slice (some ⟨g, 0, none⟩) n c] w (Acc w g n pl (.agg #[.int .u8 kd.toNat, .int .i64 ini.toNat, .int .i64 k]) (.int .u8 bk.toNat)) → Calls Yba.prog 8 #[.pointer (some ⟨pb, 0, none⟩), .slice (some ⟨g, 0, none⟩) n c] w (Parsed w nn mid agree ini.toNat kd.toNat k pl lb g n bk.toNat) :=
    fun h hc => hc.mono fun e w' hr => .inl ⟨h, hr⟩
  by_cases c4 : k ≤ 2147483647
  case neg => exact rej (fun h => c4 h.2.2.2.1) (parse_big G (by omega))
  by_cases c1 : mid = agree
  case neg => exact rej (fun h => c1 h.1) (parse_id G c4 (by simp; omega))
  have d1 : ((mid : Int) != (agree : Int)) = false := by simp [c1]
  by_cases c2 : 1 ≤ ini.toNat
  case neg => exact rej (fun h => c2 h.2.1) (parse_low G c4 d1 (by omega))
  have d2 : ¬ (ini.toNat : Int) < 1 := by omega
  by_cases c3 : (ini.toNat : Int) ≤ nn
  case neg => exact rej (fun h => c3 h.2.2.1) (parse_high G c4 d1 d2 (by omega))
  have d3 : ¬ nn < (ini.toNat : Int) := by omega
  by_cases c5 : (k = 0 ↔ kd.toNat = 4)
  case neg =>
    refine rej (fun h => c5 h.2.2.2.2.1) (parse_mix G pl hpl c4 d1 d2 d3 ?_)
    by_cases k0 : k = 0
    · left; exact ⟨beq_f (by omega), beq_t (by omega)⟩
    · right
      exact ⟨beq_t (by omega), beq_f (by omega)⟩
  by_cases kA : kd.toNat = 1 ∨ kd.toNat = 4
  · have hK : (((kd.toNat : Int) == 1) = true ∧ ((kd.toNat : Int) == 4) = false ∧ ((k : Int) == 0) = false) ∨ (((kd.toNat : Int) == 1) = false ∧ ((kd.toNat : Int) == 4) = true ∧ ((k : Int) == 0) = true) := by
      rcases kA with e | e
      · left; exact ⟨beq_t (by omega), beq_f (by omega), beq_f (by omega)⟩
      · right; exact ⟨beq_f (by omega), beq_t (by omega), beq_t (by omega)⟩
    by_cases l1 : pl = 1
    case neg => exact rej (fun h => by have := h.2.2.2.2.2.1; omega) (parse_len1 G pl hpl c4 d1 d2 d3 hK (beq_f (by omega)))
    by_cases ht : 1 < lb
    · exact rej (fun h => h.2.2.2.2.2.2.2 ht) (parse_last1_rej G pl hpl c4 d1 d2 d3 hK (beq_t (by omega)) lb (hlb (by omega)) (by omega) ht)
    · exact acc ⟨c1, c2, c3, c4, c5, .inl ⟨kA, l1⟩, by omega, ht⟩ (parse_last1_acc G pl hpl c4 d1 d2 d3 hK (beq_t (by omega)) lb (hlb (by omega)) (by omega) ht)
  · by_cases kB : kd.toNat = 2 ∨ kd.toNat = 3
    · have hK : (((kd.toNat : Int) == 1) = false ∧ ((kd.toNat : Int) == 4) = false ∧ ((kd.toNat : Int) == 2) = true ∧ ((k : Int) == 0) = false) ∨ (((kd.toNat : Int) == 1) = false ∧ ((kd.toNat : Int) == 4) = false ∧ ((kd.toNat : Int) == 2) = false ∧ ((kd.toNat : Int) == 3) = true ∧ ((k : Int) == 0) = false) := by
        rcases kB with e | e
        · left; exact ⟨beq_f (by omega), beq_f (by omega), beq_t (by omega), beq_f (by omega)⟩
        · right; exact ⟨beq_f (by omega), beq_f (by omega), beq_f (by omega), beq_t (by omega), beq_f (by omega)⟩
      by_cases l2 : (pl : Int) = bl nn
      case neg => exact rej (fun h => by have := h.2.2.2.2.2.1; omega) (parse_len2 G pl hpl c4 d1 d2 d3 hK (beq_f l2))
      have hp1 := bl_pos (by omega) h1 l2
      by_cases ht : 1 < lb
      · exact rej (fun h => h.2.2.2.2.2.2.2 ht) (parse_last2_rej G pl hpl c4 d1 d2 d3 hK (beq_t l2) lb (hlb hp1) hp1 ht)
      · exact acc ⟨c1, c2, c3, c4, c5, .inr ⟨kB, l2⟩, hp1, ht⟩ (parse_last2_acc G pl hpl c4 d1 d2 d3 hK (beq_t l2) lb (hlb hp1) hp1 ht)
    · exact rej (fun h => by have := h.2.2.2.2.2.1; omega) (parse_kind G pl hpl c4 d1 d2 d3 (beq_f (by omega)) (beq_f (by omega)) (beq_f (by omega)) (beq_f (by omega)) (beq_f (by omega)))
end Go.Proofs.Ybulkhjc.Fr
