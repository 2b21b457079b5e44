import Derived.Test.YbulkhjcBxB
namespace Go.Proofs.Ybulkhjc.Bx
open Go.RowKit

/-- the law's third loop -/
def LRel3 (n s j b : Nat) (hm : Nat → Nat) (rj lo hi : Nat) (l0 : List (Nat × Nat)) (wf : World) (ix kv : Value) (wr : World) : Prop :=
  ∃ c, (c = 0 ∨ lo + c ≤ hi + 1) ∧ kv = .int .i64 (lo + c : Nat) ∧ ix = .int .i64 ((outL n s j b hm rj lo l0 c).length : Nat) ∧ wr = wf

set_option maxRecDepth 1000000 in
set_option maxHeartbeats 4000000 in
theorem loop3 (n s j b x ol g4 cap4 hi lo rj : Nat) (ha : Option Addr) (hl hc : Nat) (hz hm : Nat → Nat) (l0 out : List (Nat × Nat)) (w : World) (Q : Exit → Act → World → Prop)
    (hn16 : n ≤ 16) (hb48 : b < 48) (hj1 : 1 ≤ j) (hjn : j ≤ n) (hlo1 : 1 ≤ lo) (hhi : hi ≤ n) (hrj2 : rj < 2 ^ n) (hHm : mk hz hl n = hm) (hl0 : l0.length = x) (hOl : out.length = ol) (hol : ol ≤ 1072)
    (hRes : out = outL n s j b hm rj lo l0 (hi + 1 - lo)) (hRow : Row16 w ha hl hz) (hDs : DsAt w g4 out) {c0 c1 c2 c3 c4 c6 c7 c8 c9 c10 c11 c12 c13 c14 c15 c16 c17 c18 c20 c24 c25 c26 c27 c29 c31 c32 c36 c37 c38 c39 c40 c41 c42 c43 c44 c45 c46 c47 c48 c49 c50 c51 c52 c53 c54 c55 c56 c57 c58 c59 c60 c61 c62 c63 c64 c65 c66 c67 c68 c69 c70 c71 c72 c73 c74 c75 c76 c77 c78 c79 c80 c81 c82 c83 c84 c85 c86 c87 c88 c89 c90 c91 c92 c93 c94 c95 c96 c97 c98 c99 c100 c101 c102 c103 c104 c105 c106 c107 c108 c109 c110 c111 c112 c113 c114 c115 c116 c117 c118 c119 c120 c121 c122 c123 c124 c125 c126 c127 c128 c129 c130 c131 c132 c133 c134 c135 c136 c137 c138 c139 c140 c141 c142 c143 c144 c145 c146 c147 c148 c149 c150 c151 c152 c153 c154 c155 c156 c157 c158 c159 c160 c161 c162 c163 c164 c165 c166 c167 c168 c169 c170 c171 c172 c173 c174 c175 c176 c177 c178 c179 c180 c181 c182 c183 c184 c185 c186 c187 c188 c189 c190 c191 c192 c193 c194 c195 c196 c197 c198 c199 c200 c201 c202 c203 c204 c205 c206 c207 c208 c209 c210 c211 c212 c213 c214 c215 c216 c217 c218 c219 c220 c221 c222 c223 c224 c225 c226 c227 c228 c229 c230 c231 c232 c233 c234 c235 c236 c237 c238 c239 c240 c241 c242 c243 c244 c245 c246 c247 c248 c249 c250 c251 c252 c253 c254 c255 c256 c257 c258 c259 c260 c261 c262 c263 c264 c265 c266 c267 c268 c269 c270 c271 c272 c273 c274 c275 c276 c277 c278 c279 c280 c281 c282 c283 c284 c285 c286 c287 c288 c289 c290 c291 c292 c293 c294 c295 c296 c297 c298 c299 c300 c301 c302 c303 c304 c305 c306 c307 c308 c309 c310 : Value}
    (hexit : ∀ u18 u35 u36 u37 u38 u39 u40 u41 u42 u43 u44 u177 u178 u179 u180 u181 u182 u183 u184 u185 u186 u187 u188 u189 u190 u191 u192 u193 u194 u195 u196 u197 u198 u199 u200 u201 u202 u203 u204 u205 u206 u207 u208 u209 u210 u211 u212 u213 u214 u215 u216 u217 u218 u219 u220 u221 u222 u223 u224 u225 u226 u227 u228 u229 u230 u231 u232 u233 u234 u235 u236 u237 u238 u239 u240 u241 u242 u243 u244 u245 u246 u247 u248 u249 u250 u251 u252 u253 u254 u255 u256 u257 u258 u259 u260 u261 u262 u263 u264 u265 u266 u267 u268 u269 u270 u271 u272 u273 u274 u275 u276 u277 u278 u279 u280 u281 u282 u283 u284 u285 u286 u287 u288 u289 u290 u291 u292 u293 u294 u295 u296 u297 u298 u299 u300 u301 u302 u303 u304 u305 u306 : Value, Q (.exit 4) ⟨(c0 :: c1 :: c2 :: c3 :: c4 :: .slice ha hl hc :: c6 :: c7 :: c8 :: c9 :: c10 :: c11 :: c12 :: c13 :: c14 :: c15 :: c16 :: c17 :: u18 :: .int .i64 (n : Int) :: c20 :: .int .i64 (s : Int) :: .int .i64 (j : Int) :: .int .i64 (b : Int) :: c24 :: c25 :: c26 :: c27 :: .slice (some ⟨g4, 0, none⟩) ol cap4 :: c29 :: .int .i64 (ol : Int) :: c31 :: c32 :: .int .i64 (hi : Int) :: .int .u16 (rj : Int) :: u35 :: u36 :: u37 :: u38 :: u39 :: u40 :: u41 :: u42 :: u43 :: u44 :: c45 :: c46 :: c47 :: c48 :: c49 :: c50 :: c51 :: c52 :: c53 :: c54 :: c55 :: c56 :: c57 :: c58 :: c59 :: c60 :: c61 :: c62 :: c63 :: c64 :: c65 :: c66 :: c67 :: c68 :: c69 :: c70 :: c71 :: c72 :: c73 :: c74 :: c75 :: c76 :: c77 :: c78 :: c79 :: c80 :: c81 :: c82 :: c83 :: c84 :: c85 :: c86 :: c87 :: c88 :: c89 :: c90 :: c91 :: c92 :: c93 :: c94 :: c95 :: c96 :: c97 :: c98 :: c99 :: c100 :: c101 :: c102 :: c103 :: c104 :: c105 :: c106 :: c107 :: c108 :: c109 :: c110 :: c111 :: c112 :: c113 :: c114 :: c115 :: c116 :: c117 :: c118 :: c119 :: c120 :: c121 :: c122 :: c123 :: c124 :: c125 :: c126 :: c127 :: c128 :: c129 :: c130 :: c131 :: c132 :: c133 :: c134 :: c135 :: c136 :: c137 :: c138 :: c139 :: c140 :: c141 :: c142 :: c143 :: c144 :: c145 :: c146 :: c147 :: c148 :: c149 :: c150 :: c151 :: c152 :: c153 :: c154 :: c155 :: c156 :: c157 :: c158 :: c159 :: c160 :: c161 :: c162 :: c163 :: c164 :: c165 :: c166 :: c167 :: c168 :: c169 :: c170 :: c171 :: c172 :: c173 :: c174 :: c175 :: c176 :: u177 :: u178 :: u179 :: u180 :: u181 :: u182 :: u183 :: u184 :: u185 :: u186 :: u187 :: u188 :: u189 :: u190 :: u191 :: u192 :: u193 :: u194 :: u195 :: u196 :: u197 :: u198 :: u199 :: u200 :: u201 :: u202 :: u203 :: u204 :: u205 :: u206 :: u207 :: u208 :: u209 :: u210 :: u211 :: u212 :: u213 :: u214 :: u215 :: u216 :: u217 :: u218 :: u219 :: u220 :: u221 :: u222 :: u223 :: u224 :: u225 :: u226 :: u227 :: u228 :: u229 :: u230 :: u231 :: u232 :: u233 :: u234 :: u235 :: u236 :: u237 :: u238 :: u239 :: u240 :: u241 :: u242 :: u243 :: u244 :: u245 :: u246 :: u247 :: u248 :: u249 :: u250 :: u251 :: u252 :: u253 :: u254 :: u255 :: u256 :: u257 :: u258 :: u259 :: u260 :: u261 :: u262 :: u263 :: u264 :: u265 :: u266 :: u267 :: u268 :: u269 :: u270 :: u271 :: u272 :: u273 :: u274 :: u275 :: u276 :: u277 :: u278 :: u279 :: u280 :: u281 :: u282 :: u283 :: u284 :: u285 :: u286 :: u287 :: u288 :: u289 :: u290 :: u291 :: u292 :: u293 :: u294 :: u295 :: u296 :: u297 :: u298 :: u299 :: u300 :: u301 :: u302 :: u303 :: u304 :: u305 :: u306 :: c307 :: c308 :: c309 :: c310 :: []).toArray, []⟩ w) :
    Code.wp Yba.prog (Code.loop body3) Q ⟨(c0 :: c1 :: c2 :: c3 :: c4 :: .slice ha hl hc :: c6 :: c7 :: c8 :: c9 :: c10 :: c11 :: c12 :: c13 :: c14 :: c15 :: c16 :: c17 :: c18 :: .int .i64 (n : Int) :: c20 :: .int .i64 (s : Int) :: .int .i64 (j : Int) :: .int .i64 (b : Int) :: c24 :: c25 :: c26 :: c27 :: .slice (some ⟨g4, 0, none⟩) ol cap4 :: c29 :: .int .i64 (x : Int) :: c31 :: c32 :: .int .i64 (hi : Int) :: .int .u16 (rj : Int) :: .int .i64 (lo : Int) :: c36 :: c37 :: c38 :: c39 :: c40 :: c41 :: c42 :: c43 :: c44 :: c45 :: c46 :: c47 :: c48 :: c49 :: c50 :: c51 :: c52 :: c53 :: c54 :: c55 :: c56 :: c57 :: c58 :: c59 :: c60 :: c61 :: c62 :: c63 :: c64 :: c65 :: c66 :: c67 :: c68 :: c69 :: c70 :: c71 :: c72 :: c73 :: c74 :: c75 :: c76 :: c77 :: c78 :: c79 :: c80 :: c81 :: c82 :: c83 :: c84 :: c85 :: c86 :: c87 :: c88 :: c89 :: c90 :: c91 :: c92 :: c93 :: c94 :: c95 :: c96 :: c97 :: c98 :: c99 :: c100 :: c101 :: c102 :: c103 :: c104 :: c105 :: c106 :: c107 :: c108 :: c109 :: c110 :: c111 :: c112 :: c113 :: c114 :: c115 :: c116 :: c117 :: c118 :: c119 :: c120 :: c121 :: c122 :: c123 :: c124 :: c125 :: c126 :: c127 :: c128 :: c129 :: c130 :: c131 :: c132 :: c133 :: c134 :: c135 :: c136 :: c137 :: c138 :: c139 :: c140 :: c141 :: c142 :: c143 :: c144 :: c145 :: c146 :: c147 :: c148 :: c149 :: c150 :: c151 :: c152 :: c153 :: c154 :: c155 :: c156 :: c157 :: c158 :: c159 :: c160 :: c161 :: c162 :: c163 :: c164 :: c165 :: c166 :: c167 :: c168 :: c169 :: c170 :: c171 :: c172 :: c173 :: c174 :: c175 :: c176 :: c177 :: c178 :: c179 :: c180 :: c181 :: c182 :: c183 :: c184 :: c185 :: c186 :: c187 :: c188 :: c189 :: c190 :: c191 :: c192 :: c193 :: c194 :: c195 :: c196 :: c197 :: c198 :: c199 :: c200 :: c201 :: c202 :: c203 :: c204 :: c205 :: c206 :: c207 :: c208 :: c209 :: c210 :: c211 :: c212 :: c213 :: c214 :: c215 :: c216 :: c217 :: c218 :: c219 :: c220 :: c221 :: c222 :: c223 :: c224 :: c225 :: c226 :: c227 :: c228 :: c229 :: c230 :: c231 :: c232 :: c233 :: c234 :: c235 :: c236 :: c237 :: c238 :: c239 :: c240 :: c241 :: c242 :: c243 :: c244 :: c245 :: c246 :: c247 :: c248 :: c249 :: c250 :: c251 :: c252 :: c253 :: c254 :: c255 :: c256 :: c257 :: c258 :: c259 :: c260 :: c261 :: c262 :: c263 :: c264 :: c265 :: c266 :: c267 :: c268 :: c269 :: c270 :: c271 :: c272 :: c273 :: c274 :: c275 :: c276 :: c277 :: c278 :: c279 :: c280 :: c281 :: c282 :: c283 :: c284 :: c285 :: c286 :: c287 :: c288 :: c289 :: c290 :: c291 :: c292 :: c293 :: c294 :: c295 :: c296 :: c297 :: c298 :: c299 :: c300 :: c301 :: c302 :: c303 :: c304 :: c305 :: c306 :: c307 :: c308 :: c309 :: c310 :: []).toArray, []⟩ w := by
  conv => arg 2; arg 1; whnf
  have p16 : 2 ^ n ≤ 65536 := by rw [show (65536 : Nat) = 2 ^ 16 from by decide]; exact Nat.pow_le_pow_right (by decide) hn16
  have HRj2 : Hid (rj < 2 ^ n) := hrj2
  have hrj16 : rj < 65536 := by omega
  have HHm : Hid (mk hz hl n = hm) := hHm
  have HL0 : Hid (l0.length = x) := hl0
  have HOl : Hid (out.length = ol) := hOl
  have HRes : Hid (out = outL n s j b hm rj lo l0 (hi + 1 - lo)) := hRes
  have HRow : Hid (Row16 w ha hl hz) := hRow
  have HDs : Hid (DsAt w g4 out) := hDs
  clear hHm hl0 hOl hRes hRow hDs hrj2
  go_loopg [30, 35] (hi + 1 - lo) (fun gg ix kv wr => gg = hi + 1 - (intOf kv).toNat ∧ LRel3 n s j b hm rj lo hi l0 w ix kv wr)
  case atStart => exact ⟨by simp [intOf], 0, .inl rfl, rfl, by simp [outL, HL0.out], rfl⟩
  case round =>
    obtain ⟨hgk, c, hcc, rfl, rfl, rfl⟩ := hrel
    obtain ⟨l, el⟩ : ∃ l, outL n s j b hm rj lo l0 c = l := ⟨_, rfl⟩
    have HEl : Hid (outL n s j b hm rj lo l0 c = l) := el
    rw [el]
    obtain ⟨il, eil⟩ : ∃ il, l.length = il := ⟨_, rfl⟩
    have HIl : Hid (l.length = il) := eil
    rw [eil]
    obtain ⟨k, ek⟩ : ∃ k, lo + c = k := ⟨_, rfl⟩
    have HK : Hid (lo + c = k) := ek
    rw [ek] at hcc hgk ⊢
    by_cases hkh : k ≤ hi
    · have hk1 : 1 ≤ k := by omega
      have hkn : k ≤ n := by omega
      have hcC : c + 1 ≤ hi + 1 - lo := by omega
      obtain ⟨tl, etl⟩ := outL_pre' n s j b hm rj lo l0 (show c ≤ hi + 1 - lo by omega)
      obtain ⟨tl1, etl1⟩ := outL_pre' n s j b hm rj lo l0 hcC
      rw [← HRes.out, el] at etl
      rw [← HRes.out] at etl1
      have hilo : il ≤ ol := by rw [← HOl.out, etl, List.length_append]; omega
      have HCell : Hid (∀ q (h : q < l.length), wr.cell? ⟨g4, q * 2 + 1, none⟩ = some (.int .i64 (l[q]).2)) := fun q h => by
        have h' : q < out.length := by rw [etl, List.length_append]; omega
        have e : out[q] = l[q] := by
          simp only [etl]
          rw [List.getElem_append_left h]
        rw [← e]
        exact (HDs.out q h').2
      have HTl1 : Hid (out = outL n s j b hm rj lo l0 (c + 1) ++ tl1) := etl1
      have HSt : Hid (outL n s j b hm rj lo l0 (c + 1) = stepL n s j b hm rj k l) := by show _ = _; simp only [outL]; rw [el, ek]
      clear el eil ek etl etl1 hexit
      obtain ⟨hk, ehk⟩ : ∃ hk, hm (k - 1) = hk := ⟨_, rfl⟩
      have HHk : Hid (hm (k - 1) = hk) := ehk
      have hhk2 : hk < 2 ^ n := by rw [← ehk, ← HHm.out]; exact mk_lt _ _ _ _
      have HHk2 : Hid (hk < 2 ^ n) := hhk2
      have hhk16 : hk < 65536 := by omega
      have HMk : Hid (Calls Yba.prog 13 #[.slice ha hl hc, .int .i64 ((k : Int) - 1), .int .i64 n] wr fun e w' => e = .returned (.int .u16 hk) ∧ w' = wr) := by
        have h := mask_any ha hl hc (k - 1) n hz wr HRow.out hn16
        rw [show (((k - 1 : Nat)) : Int) = (k : Int) - 1 from by omega, HHm.out, ehk] at h
        exact h
      have HNum : Hid ((.int .i64 ((k : Int) + 1) : Value) = .int .i64 (lo + (c + 1) : Nat)) := by
        show _ = _
        rw [show lo + (c + 1) = k + 1 from by have := HK.out; omega]; go_num
      have HLe : Hid (lo + (c + 1) ≤ hi + 1) := by show _ ≤ _; have := HK.out; omega
      have hbt := bit_one hk (j - 1) hhk16
      clear ehk hhk2
      cases hbit : hk.testBit (j - 1)
      · rw [hbit] at hbt
        have HBit : Hid (hk.testBit (j - 1) = false) := hbit
        clear hbit
        have hand : bits .and .u16 (hk : Int) (rj : Int) = ((hk &&& rj : Nat) : Int) := u16_and_nat hk rj hhk16 hrj16
        have handlt : hk &&& rj < 2 ^ n := Nat.lt_of_le_of_lt Nat.and_le_left HHk2.out
        obtain ⟨r, er⟩ : ∃ r, popTo (hk &&& rj) n = r := ⟨_, rfl⟩
        have HEr : Hid (popTo (hk &&& rj) n = r) := er
        have hr16 : r ≤ 16 := by rw [← er]; have := popTo_le (hk &&& rj) n; omega
        have HPop : Hid (Calls Yba.prog 14 #[.int .u16 ((hk &&& rj : Nat) : Int)] wr fun e w' => e = .returned (.int .i64 r) ∧ w' = wr) := by
          have h := pop_any (hk &&& rj) (by omega) wr
          rw [popTo_ext handlt 16 hn16, er] at h
          exact h
        clear handlt er
        go_wp2_with fail
        refine HMk.out.mono ?_
        rintro e w' ⟨rfl, rfl⟩
        go_wp2_with fail
        refine HPop.out.mono ?_
        rintro e w' ⟨rfl, rfl⟩
        by_cases hr1 : (r : Int) < (b : Int) - k - 1
        · have hd1 : decide ((r : Int) < (b : Int) - k - 1) = true := by simp [hr1]
          have HSt' : Hid (outL n s j b hm rj lo l0 (c + 1) = l) := by show _ = _; rw [HSt.out]; unfold stepL; rw [HHk.out, HBit.out, if_neg Bool.false_ne_true, HEr.out, if_pos (.inl hr1)]
          clear hr1
          go_wp2
          go_roundg (hi + 1 - (k + 1))
          case measure => simp [intOf] at hgk; omega
          case rel => exact ⟨by simp [intOf], c + 1, .inr HLe.out, HNum.out, by rw [HSt'.out, HIl.out], rfl⟩
        · have hd1 : decide ((r : Int) < (b : Int) - k - 1) = false := by simp; omega
          by_cases hr2 : (b : Int) - k < (r : Int)
          · have hd2 : decide ((b : Int) - k < (r : Int)) = true := by simp [hr2]
            have HSt' : Hid (outL n s j b hm rj lo l0 (c + 1) = l) := by show _ = _; rw [HSt.out]; unfold stepL; rw [HHk.out, HBit.out, if_neg Bool.false_ne_true, HEr.out, if_pos (.inr hr2)]
            clear hr1 hr2
            go_wp2
            go_roundg (hi + 1 - (k + 1))
            case measure => simp [intOf] at hgk; omega
            case rel => exact ⟨by simp [intOf], c + 1, .inr HLe.out, HNum.out, by rw [HSt'.out, HIl.out], rfl⟩
          · have hd2 : decide ((b : Int) - k < (r : Int)) = false := by simp; omega
            have HStep : Hid (outL n s j b hm rj lo l0 (c + 1) = if pick n hk rj s l j k = 0 then l else l ++ [(k, pick n hk rj s l j k)]) := by
              show _ = _
              rw [HSt.out]; unfold stepL
              rw [HHk.out, HBit.out, if_neg Bool.false_ne_true, HEr.out, if_neg (by omega)]
            clear hr1 hr2
            go_wp2
            refine loop4 n s j k il ol g4 cap4 hk rj l _ _ hn16 hj1 hjn hk1 hkn hhk16 hrj16 HIl.out hilo hol HCell.out ?_
            clear hand hbt hd1 hd2 HMk HPop
            intros
            have hpl := pickTo_le (key l j k) (cand hk rj s) n
            change pick n hk rj s l j k ≤ n at hpl
            obtain ⟨f, ef⟩ : ∃ f, pick n hk rj s l j k = f := ⟨_, rfl⟩
            have HStep : Hid (outL n s j b hm rj lo l0 (c + 1) = if f = 0 then l else l ++ [(k, f)]) := by
              have h := HStep.out
              rw [ef] at h
              exact h
            rw [ef] at hpl ⊢
            clear ef
            by_cases hf0 : f = 0
            · have hfb : ((f : Int) == 0) = true := by simp [hf0]
              have HSt' : Hid (outL n s j b hm rj lo l0 (c + 1) = l) := by show _ = _; rw [HStep.out, if_pos hf0]
              clear hf0
              go_wp2
              go_roundg (hi + 1 - (k + 1))
              case measure => simp [intOf] at hgk; omega
              case rel => exact ⟨by simp [intOf], c + 1, .inr HLe.out, HNum.out, by rw [HSt'.out, HIl.out], rfl⟩
            · have hfb : ((f : Int) == 0) = false := by simp [hf0]
              have HSt' : Hid (outL n s j b hm rj lo l0 (c + 1) = l ++ [(k, f)]) := by show _ = _; rw [HStep.out, if_neg hf0]
              have hT := HTl1.out
              rw [HSt'.out] at hT
              have hlt : il < ol := by rw [← HOl.out, hT, ← HIl.out]; simp
              have hio : il < out.length := by rw [HOl.out]; exact hlt
              have hget : out[il] = (k, f) := by
                have := HIl.out
                subst this
                simp [hT]
              obtain ⟨d1, d2⟩ := HDs.out il hio
              rw [hget] at d1 d2
              have hge : decide ((ol : Int) ≤ il) = false := by simp; omega
              have hge2 : ¬ (ol : Int) ≤ il := by omega
              clear hf0 hT hget hio
              go_wp2
              go_roundg (hi + 1 - (k + 1))
              case measure => first | (simp [intOf] at hgk; omega) | (simp [intOf]; omega)
              case rel => exact ⟨by simp [intOf], c + 1, .inr HLe.out, HNum.out, by rw [HSt'.out, List.length_append, HIl.out]; go_num, rfl⟩
      · rw [hbit] at hbt
        have HSt' : Hid (outL n s j b hm rj lo l0 (c + 1) = l) := by show _ = _; rw [HSt.out]; simp [stepL, HHk.out, hbit]
        clear hbit
        go_wp2_with fail
        refine HMk.out.mono ?_
        rintro e w' ⟨rfl, rfl⟩
        go_wp2
        go_roundg (hi + 1 - (k + 1))
        case measure => simp [intOf] at hgk; omega
        case rel => exact ⟨by simp [intOf], c + 1, .inr HLe.out, HNum.out, by rw [HSt'.out, HIl.out], rfl⟩
    · have hfin : il = ol := by
        have h := HOl.out
        rw [HRes.out, show hi + 1 - lo = c from by omega, el, eil] at h
        exact h
      subst hfin
      clear el eil ek
      go_wp2
      exact hexit ..
end Go.Proofs.Ybulkhjc.Bx
