import Derived.Test.YbulkhjcBx9
namespace Go.Proofs.Ybulkhjc.Bx
open Go.RowKit

theorem stepP_no {K : Nat → Nat} {C : Nat → Bool} {g b : Nat} (h : C g = false) : stepP K C g b = b := by
  unfold stepP; rw [h]; rfl
theorem stepP_yes {K : Nat → Nat} {C : Nat → Bool} {g b : Nat} (h : C g = true) (h2 : b = 0 ∨ K g < K b) : stepP K C g b = g := by
  unfold stepP; rw [h, if_pos (by simpa using h2)]
theorem stepP_leave {K : Nat → Nat} {C : Nat → Bool} {g b : Nat} (h : b ≠ 0) (h2 : ¬ K g < K b) : stepP K C g b = b := by
  unfold stepP; rw [if_neg (by simp [h, h2])]

/-- the loops of a code, outer ones first -/
def loops : Code → List Code
  | .loop c => c :: loops c
  | .seq a b => loops a ++ loops b
  | .block _ c => loops c
  | .scope c => loops c
  | .cond _ a b => loops a ++ loops b
  | _ => []
noncomputable def loopsOf5 : List Code := ((Yba.f5.body.map loops).getD [])
noncomputable def body3 : Code := (loopsOf5[2]?).getD .skip
noncomputable def body4 : Code := (loopsOf5[3]?).getD .skip

/-- the law's fourth loop: the choice -/
def LRel4 (n hk rj s : Nat) (l : List (Nat × Nat)) (j k : Nat) (w : World) (best bc bt f : Value) (wr : World) : Prop :=
  ∃ m bcn btn : Nat, m ≤ n ∧ f = .int .i64 (m + 1 : Nat) ∧ best = .int .i64 (pickTo (key l j k) (cand hk rj s) m : Nat) ∧ bc = .int .i64 bcn ∧ bt = .int .u32 btn ∧ bcn ≤ 2000 ∧ btn < 4294967296 ∧
    (pickTo (key l j k) (cand hk rj s) m ≠ 0 → bcn = cntD l (pickTo (key l j k) (cand hk rj s) m) ∧ btn = tie (pickTo (key l j k) (cand hk rj s) m) j k) ∧ wr = w

set_option maxRecDepth 1000000 in
set_option maxHeartbeats 4000000 in
theorem loop4 (n s j k il ol g4 cap4 hk rj : Nat) (l : List (Nat × Nat)) (w : World) (Q : Exit → Act → World → Prop)
    (hn16 : n ≤ 16) (_hj1 : 1 ≤ j) (hjn : j ≤ n) (_hk1 : 1 ≤ k) (hkn : k ≤ n) (hhk16 : hk < 65536) (hrj16 : rj < 65536) (hIl : l.length = il) (hilo : il ≤ ol) (hol : ol ≤ 1072)
    (hCell : ∀ q (h : q < l.length), w.cell? ⟨g4, q * 2 + 1, none⟩ = some (.int .i64 (l[q]).2)) {c0 c1 c2 c3 c4 c5 c6 c7 c8 c9 c10 c11 c12 c13 c14 c15 c16 c17 c18 c20 c23 c24 c25 c26 c27 c29 c31 c32 c33 c37 c42 c43 c44 c45 c46 c47 c48 c49 c50 c51 c52 c53 c54 c55 c56 c57 c58 c59 c60 c61 c62 c63 c64 c65 c66 c67 c68 c69 c70 c71 c72 c73 c74 c75 c76 c77 c78 c79 c80 c81 c82 c83 c84 c85 c86 c87 c88 c89 c90 c91 c92 c93 c94 c95 c96 c97 c98 c99 c100 c101 c102 c103 c104 c105 c106 c107 c108 c109 c110 c111 c112 c113 c114 c115 c116 c117 c118 c119 c120 c121 c122 c123 c124 c125 c126 c127 c128 c129 c130 c131 c132 c133 c134 c135 c136 c137 c138 c139 c140 c141 c142 c143 c144 c145 c146 c147 c148 c149 c150 c151 c152 c153 c154 c155 c156 c157 c158 c159 c160 c161 c162 c163 c164 c165 c166 c167 c168 c169 c170 c171 c172 c173 c174 c175 c176 c177 c178 c179 c180 c181 c182 c183 c184 c185 c186 c187 c188 c189 c190 c191 c192 c193 c194 c195 c196 c197 c198 c199 c200 c201 c202 c203 c204 c205 c206 c207 c208 c209 c210 c211 c212 c213 c214 c215 c216 c217 c218 c219 c220 c221 c222 c223 c224 c225 c226 c227 c228 c229 c230 c231 c232 c233 c234 c235 c236 c237 c238 c239 c240 c241 c242 c243 c244 c245 c246 c247 c248 c249 c250 c251 c252 c253 c254 c255 c256 c257 c258 c259 c260 c261 c262 c263 c264 c265 c266 c267 c268 c269 c270 c271 c272 c273 c274 c275 c276 c277 c278 c279 c280 c281 c282 c283 c284 c285 c286 c287 c288 c289 c290 c291 c292 c293 c294 c295 c296 c297 c298 c299 c300 c301 c302 c303 c304 c305 c306 c307 c308 c309 c310 : Value}
    (hexit : ∀ u39 u40 u41 u42 u43 u44 u211 u212 u213 u214 u215 u216 u217 u218 u219 u220 u221 u222 u223 u224 u225 u226 u227 u228 u229 u230 u231 u232 u233 u234 u235 u236 u237 u238 u239 u240 u241 u242 u243 u244 u245 u246 u247 u248 u249 u250 u251 u252 u253 u254 u255 u256 u257 u258 u259 u260 u261 u262 u263 u264 u265 u266 u267 u268 u269 u270 u271 u272 u273 u274 u275 u276 u277 u278 u279 u280 : Value, Q (.exit 6) ⟨(c0 :: c1 :: c2 :: c3 :: c4 :: c5 :: c6 :: c7 :: c8 :: c9 :: c10 :: c11 :: c12 :: c13 :: c14 :: c15 :: c16 :: c17 :: c18 :: .int .i64 (n : Int) :: c20 :: .int .i64 (s : Int) :: .int .i64 (j : Int) :: c23 :: c24 :: c25 :: c26 :: c27 :: .slice (some ⟨g4, 0, none⟩) ol cap4 :: c29 :: .int .i64 (il : Int) :: c31 :: c32 :: c33 :: .int .u16 (rj : Int) :: .int .i64 (k : Int) :: .int .u16 (hk : Int) :: c37 :: .int .i64 (pick n hk rj s l j k : Nat) :: u39 :: u40 :: u41 :: u42 :: u43 :: u44 :: c45 :: c46 :: c47 :: c48 :: c49 :: c50 :: c51 :: c52 :: c53 :: c54 :: c55 :: c56 :: c57 :: c58 :: c59 :: c60 :: c61 :: c62 :: c63 :: c64 :: c65 :: c66 :: c67 :: c68 :: c69 :: c70 :: c71 :: c72 :: c73 :: c74 :: c75 :: c76 :: c77 :: c78 :: c79 :: c80 :: c81 :: c82 :: c83 :: c84 :: c85 :: c86 :: c87 :: c88 :: c89 :: c90 :: c91 :: c92 :: c93 :: c94 :: c95 :: c96 :: c97 :: c98 :: c99 :: c100 :: c101 :: c102 :: c103 :: c104 :: c105 :: c106 :: c107 :: c108 :: c109 :: c110 :: c111 :: c112 :: c113 :: c114 :: c115 :: c116 :: c117 :: c118 :: c119 :: c120 :: c121 :: c122 :: c123 :: c124 :: c125 :: c126 :: c127 :: c128 :: c129 :: c130 :: c131 :: c132 :: c133 :: c134 :: c135 :: c136 :: c137 :: c138 :: c139 :: c140 :: c141 :: c142 :: c143 :: c144 :: c145 :: c146 :: c147 :: c148 :: c149 :: c150 :: c151 :: c152 :: c153 :: c154 :: c155 :: c156 :: c157 :: c158 :: c159 :: c160 :: c161 :: c162 :: c163 :: c164 :: c165 :: c166 :: c167 :: c168 :: c169 :: c170 :: c171 :: c172 :: c173 :: c174 :: c175 :: c176 :: c177 :: c178 :: c179 :: c180 :: c181 :: c182 :: c183 :: c184 :: c185 :: c186 :: c187 :: c188 :: c189 :: c190 :: c191 :: c192 :: c193 :: c194 :: c195 :: c196 :: c197 :: c198 :: c199 :: c200 :: c201 :: c202 :: c203 :: c204 :: c205 :: c206 :: c207 :: c208 :: c209 :: c210 :: u211 :: u212 :: u213 :: u214 :: u215 :: u216 :: u217 :: u218 :: u219 :: u220 :: u221 :: u222 :: u223 :: u224 :: u225 :: u226 :: u227 :: u228 :: u229 :: u230 :: u231 :: u232 :: u233 :: u234 :: u235 :: u236 :: u237 :: u238 :: u239 :: u240 :: u241 :: u242 :: u243 :: u244 :: u245 :: u246 :: u247 :: u248 :: u249 :: u250 :: u251 :: u252 :: u253 :: u254 :: u255 :: u256 :: u257 :: u258 :: u259 :: u260 :: u261 :: u262 :: u263 :: u264 :: u265 :: u266 :: u267 :: u268 :: u269 :: u270 :: u271 :: u272 :: u273 :: u274 :: u275 :: u276 :: u277 :: u278 :: u279 :: u280 :: c281 :: c282 :: c283 :: c284 :: c285 :: c286 :: c287 :: c288 :: c289 :: c290 :: c291 :: c292 :: c293 :: c294 :: c295 :: c296 :: c297 :: c298 :: c299 :: c300 :: c301 :: c302 :: c303 :: c304 :: c305 :: c306 :: c307 :: c308 :: c309 :: c310 :: []).toArray, []⟩ w) :
    Code.wp Yba.prog (Code.loop body4) Q ⟨(c0 :: c1 :: c2 :: c3 :: c4 :: c5 :: c6 :: c7 :: c8 :: c9 :: c10 :: c11 :: c12 :: c13 :: c14 :: c15 :: c16 :: c17 :: c18 :: .int .i64 (n : Int) :: c20 :: .int .i64 (s : Int) :: .int .i64 (j : Int) :: c23 :: c24 :: c25 :: c26 :: c27 :: .slice (some ⟨g4, 0, none⟩) ol cap4 :: c29 :: .int .i64 (il : Int) :: c31 :: c32 :: c33 :: .int .u16 (rj : Int) :: .int .i64 (k : Int) :: .int .u16 (hk : Int) :: c37 :: .int .i64 0 :: .int .i64 0 :: .int .u32 0 :: .int .i64 1 :: c42 :: c43 :: c44 :: c45 :: c46 :: c47 :: c48 :: c49 :: c50 :: c51 :: c52 :: c53 :: c54 :: c55 :: c56 :: c57 :: c58 :: c59 :: c60 :: c61 :: c62 :: c63 :: c64 :: c65 :: c66 :: c67 :: c68 :: c69 :: c70 :: c71 :: c72 :: c73 :: c74 :: c75 :: c76 :: c77 :: c78 :: c79 :: c80 :: c81 :: c82 :: c83 :: c84 :: c85 :: c86 :: c87 :: c88 :: c89 :: c90 :: c91 :: c92 :: c93 :: c94 :: c95 :: c96 :: c97 :: c98 :: c99 :: c100 :: c101 :: c102 :: c103 :: c104 :: c105 :: c106 :: c107 :: c108 :: c109 :: c110 :: c111 :: c112 :: c113 :: c114 :: c115 :: c116 :: c117 :: c118 :: c119 :: c120 :: c121 :: c122 :: c123 :: c124 :: c125 :: c126 :: c127 :: c128 :: c129 :: c130 :: c131 :: c132 :: c133 :: c134 :: c135 :: c136 :: c137 :: c138 :: c139 :: c140 :: c141 :: c142 :: c143 :: c144 :: c145 :: c146 :: c147 :: c148 :: c149 :: c150 :: c151 :: c152 :: c153 :: c154 :: c155 :: c156 :: c157 :: c158 :: c159 :: c160 :: c161 :: c162 :: c163 :: c164 :: c165 :: c166 :: c167 :: c168 :: c169 :: c170 :: c171 :: c172 :: c173 :: c174 :: c175 :: c176 :: c177 :: c178 :: c179 :: c180 :: c181 :: c182 :: c183 :: c184 :: c185 :: c186 :: c187 :: c188 :: c189 :: c190 :: c191 :: c192 :: c193 :: c194 :: c195 :: c196 :: c197 :: c198 :: c199 :: c200 :: c201 :: c202 :: c203 :: c204 :: c205 :: c206 :: c207 :: c208 :: c209 :: c210 :: c211 :: c212 :: c213 :: c214 :: c215 :: c216 :: c217 :: c218 :: c219 :: c220 :: c221 :: c222 :: c223 :: c224 :: c225 :: c226 :: c227 :: c228 :: c229 :: c230 :: c231 :: c232 :: c233 :: c234 :: c235 :: c236 :: c237 :: c238 :: c239 :: c240 :: c241 :: c242 :: c243 :: c244 :: c245 :: c246 :: c247 :: c248 :: c249 :: c250 :: c251 :: c252 :: c253 :: c254 :: c255 :: c256 :: c257 :: c258 :: c259 :: c260 :: c261 :: c262 :: c263 :: c264 :: c265 :: c266 :: c267 :: c268 :: c269 :: c270 :: c271 :: c272 :: c273 :: c274 :: c275 :: c276 :: c277 :: c278 :: c279 :: c280 :: c281 :: c282 :: c283 :: c284 :: c285 :: c286 :: c287 :: c288 :: c289 :: c290 :: c291 :: c292 :: c293 :: c294 :: c295 :: c296 :: c297 :: c298 :: c299 :: c300 :: c301 :: c302 :: c303 :: c304 :: c305 :: c306 :: c307 :: c308 :: c309 :: c310 :: []).toArray, []⟩ w := by
  conv => arg 2; arg 1; whnf
  have HIl : Hid (l.length = il) := hIl
  have HCell : Hid (∀ q (h : q < l.length), w.cell? ⟨g4, q * 2 + 1, none⟩ = some (.int .i64 (l[q]).2)) := hCell
  clear hIl hCell
  go_loopg [38, 39, 40, 41] n (fun gg best bc bt f wr => gg = n + 1 - (intOf f).toNat ∧ LRel4 n hk rj s l j k w best bc bt f wr)
  case atStart => exact ⟨rfl, 0, 0, 0, by omega, rfl, rfl, rfl, rfl, by omega, by omega, fun h => absurd rfl h, rfl⟩
  case round =>
    obtain ⟨hgk, m, bcn, btn, hm, rfl, rfl, rfl, rfl, hbc, hbt, hP, rfl⟩ := hrel
    obtain ⟨f, ef⟩ : ∃ f, m + 1 = f := ⟨_, rfl⟩
    have HF : Hid (m + 1 = f) := ef
    have HNx : Hid (pickTo (key l j k) (cand hk rj s) (m + 1) = stepP (key l j k) (cand hk rj s) f (pickTo (key l j k) (cand hk rj s) m)) := by
      show _ = _
      rw [← ef]; rfl
    have hple := pickTo_le (key l j k) (cand hk rj s) m
    obtain ⟨p, ep⟩ : ∃ p, pickTo (key l j k) (cand hk rj s) m = p := ⟨_, rfl⟩
    have HEp : Hid (pickTo (key l j k) (cand hk rj s) m = p) := ep
    rw [ep] at HNx hP hple ⊢
    have HP : Hid (p ≠ 0 → bcn = cntD l p ∧ btn = tie p j k) := hP
    rw [ef] at hgk ⊢
    clear ep hP
    by_cases hfn : f ≤ n
    · have HNum : Hid ((.int .i64 ((f : Int) + 1) : Value) = .int .i64 (m + 1 + 1 : Nat)) := by
        show _ = _
        rw [ef]; go_num
      have hf1 : 1 ≤ f := by omega
      clear ef hexit
      have b0 := bit_zero hk (f - 1) hhk16
      have b1 := bit_one rj (f - 1) hrj16
      cases hbit : hk.testBit (f - 1)
      · have HC : Hid (pickTo (key l j k) (cand hk rj s) (m + 1) = p) := by show _ = _; rw [HNx.out, stepP_no (by simp [cand, hbit])]
        rw [hbit] at b0
        clear hbit b1
        go_wp2
        go_roundg (n - f)
        case measure => simp [intOf] at hgk; omega
        case rel => exact ⟨by simp [intOf], m + 1, bcn, btn, by have := HF.out; omega, HNum.out, by rw [HC.out], rfl, rfl, hbc, hbt, by rw [HC.out]; exact HP.out, rfl⟩
      · rw [hbit] at b0
        cases hbit2 : rj.testBit (f - 1)
        · rw [hbit2] at b1
          by_cases hfs : f = s
          · have HC : Hid (pickTo (key l j k) (cand hk rj s) (m + 1) = p) := by show _ = _; rw [HNx.out, stepP_no (by simp [cand, hfs])]
            have hfb : ((f : Int) == s) = true := by simp; omega
            clear hbit hbit2 hfs
            go_wp2
            go_roundg (n - f)
            case measure => simp [intOf] at hgk; omega
            case rel => exact ⟨by simp [intOf], m + 1, bcn, btn, by have := HF.out; omega, HNum.out, by rw [HC.out], rfl, rfl, hbc, hbt, by rw [HC.out]; exact HP.out, rfl⟩
          · have hfb : ((f : Int) == s) = false := by simp; omega
            have HCand : Hid (cand hk rj s f = true) := by show _ = _; simp [cand, hbit, hbit2, hfs]
            clear hbit hbit2 hfs
            go_wp2
            go_loopg [42, 43] il (fun gg cv xv w2 => gg = il - (intOf xv).toNat ∧ ∃ q cn : Nat, q ≤ il ∧ cn ≤ q ∧ xv = .int .i64 q ∧ cv = .int .i64 cn ∧ cn = cntD (l.take q) f ∧ w2 = wr)
            case atStart => exact ⟨rfl, 0, 0, by omega, by omega, rfl, rfl, by simp [cntD], rfl⟩
            case round =>
              obtain ⟨hg5, q, cn, hq, hcn, rfl, rfl, hcnt, rfl⟩ := hrel
              have HCnt : Hid (cn = cntD (l.take q) f) := hcnt
              clear hcnt
              by_cases hql : q < il
              · have hq' : q < l.length := by rw [HIl.out]; exact hql
                have c2 := HCell.out q hq'
                have HTk := cntD_take l f q hq'
                obtain ⟨d2, ed2⟩ : ∃ d, (l[q]).2 = d := ⟨_, rfl⟩
                rw [ed2] at c2 HTk
                have hd1 : decide ((q : Int) < il) = true := by simp [hql]
                have hd2 : decide ((q : Int) < ol) = true := by simp; omega
                clear ed2
                by_cases hd : d2 = f
                · have hdb : ((d2 : Int) == f) = true := by simp [hd]
                  have HTk' : Hid (cntD (l.take (q + 1)) f = cn + 1) := by show _ = _; rw [HTk, if_pos hd, HCnt.out]
                  clear HTk hd
                  go_wp2
                  go_roundg (il - (q + 1))
                  case measure => simp [intOf] at hg5; omega
                  case rel => exact ⟨by simp [intOf], q + 1, cn + 1, by omega, by omega, by go_num, by go_num, HTk'.out.symm, rfl⟩
                · have hdb : ((d2 : Int) == f) = false := by simp; omega
                  have HTk' : Hid (cntD (l.take (q + 1)) f = cn) := by show _ = _; rw [HTk, if_neg hd, HCnt.out]; omega
                  clear HTk hd
                  go_wp2
                  go_roundg (il - (q + 1))
                  case measure => simp [intOf] at hg5; omega
                  case rel => exact ⟨by simp [intOf], q + 1, cn, by omega, by omega, by go_num, rfl, HTk'.out.symm, rfl⟩
              · obtain rfl : q = il := by omega
                have hd1 : decide ((q : Int) < q) = false := by simp
                have HT : Hid (∀ w : World, Calls Yba.prog 15 #[.int .i64 f, .int .i64 j, .int .i64 k] w fun e w' => e = .returned (.int .u32 (tie f j k)) ∧ w' = w) := fun w => tie_any f j k (by omega) (by omega) (by omega) w
                have HCn : Hid (cn = cntD l f) := by
                  show _ = _
                  rw [HCnt.out, ← HIl.out, List.take_length]
                obtain ⟨tt, ett⟩ : ∃ tt, tie f j k = tt := ⟨_, rfl⟩
                have HTt : Hid (tie f j k = tt) := ett
                have htt := tie_lt f j k
                rw [ett] at HT htt
                clear ett
                by_cases hp0 : p = 0
                · have hpb : ((p : Int) == 0) = true := by simp [hp0]
                  have HC : Hid (pickTo (key l j k) (cand hk rj s) (m + 1) = f) := by show _ = _; rw [HNx.out, stepP_yes HCand.out (.inl hp0)]
                  clear hp0
                  go_wp2_with fail
                  refine (HT.out _).mono ?_
                  rintro e w' ⟨rfl, rfl⟩
                  go_wp2
                  go_roundg (n - f)
                  case measure => simp [intOf] at hgk; omega
                  case rel => exact ⟨by simp [intOf], m + 1, cn, tt, by have := HF.out; omega, HNum.out, by rw [HC.out], rfl, rfl, by omega, htt, fun _ => by rw [HC.out]; exact ⟨HCn.out, HTt.out.symm⟩, rfl⟩
                · have hpb : ((p : Int) == 0) = false := by simp [hp0]
                  obtain ⟨hbe, hte⟩ := HP.out hp0
                  have hkl := key_lt l j k f p
                  rw [← hbe, ← hte, ← HCn.out, HTt.out] at hkl
                  clear hbe hte
                  by_cases h1 : cn < bcn
                  · have e1 : decide ((cn : Int) < bcn) = true := by simp [h1]
                    have HC : Hid (pickTo (key l j k) (cand hk rj s) (m + 1) = f) := by show _ = _; rw [HNx.out, stepP_yes HCand.out (.inr (hkl.2 (.inl h1)))]
                    have i1 : (cn : Int) < bcn := by omega
                    have e2 : ((cn : Int) == bcn) = false := by simp; omega
                    have i2 : ¬ (cn : Int) = bcn := by omega
                    have n2 : ¬ cn = bcn := by omega
                    have i3 : ¬ bcn ≤ cn := by omega
                    clear hkl
                    go_wp2_with fail
                    refine (HT.out _).mono ?_
                    rintro e w' ⟨rfl, rfl⟩
                    go_wp2
                    go_roundg (n - f)
                    case measure => simp [intOf] at hgk; omega
                    case rel => exact ⟨by simp [intOf], m + 1, cn, tt, by have := HF.out; omega, HNum.out, by rw [HC.out], rfl, rfl, by omega, htt, fun _ => by rw [HC.out]; exact ⟨HCn.out, HTt.out.symm⟩, rfl⟩
                  · have e1 : decide ((cn : Int) < bcn) = false := by simp; omega
                    by_cases h2 : cn = bcn
                    · subst h2
                      by_cases h3 : tt < btn
                      · have e3 : decide ((tt : Int) < btn) = true := by simp [h3]
                        have HC : Hid (pickTo (key l j k) (cand hk rj s) (m + 1) = f) := by show _ = _; rw [HNx.out, stepP_yes HCand.out (.inr (hkl.2 (.inr ⟨rfl, h3⟩)))]
                        have i3 : (tt : Int) < btn := by omega
                        clear h1 hkl e1
                        go_wp2_with fail
                        refine (HT.out _).mono ?_
                        rintro e w' ⟨rfl, rfl⟩
                        go_wp2
                        go_roundg (n - f)
                        case measure => simp [intOf] at hgk; omega
                        case rel => exact ⟨by simp [intOf], m + 1, cn, tt, by have := HF.out; omega, HNum.out, by rw [HC.out], rfl, rfl, by omega, htt, fun _ => by rw [HC.out]; exact ⟨HCn.out, HTt.out.symm⟩, rfl⟩
                      · have e3 : decide ((tt : Int) < btn) = false := by simp; omega
                        have HC : Hid (pickTo (key l j k) (cand hk rj s) (m + 1) = p) := by show _ = _; rw [HNx.out, stepP_leave hp0 (fun h => by rcases hkl.1 h with h | h; exact h1 h; exact h3 h.2)]
                        have i3 : ¬ (tt : Int) < btn := by omega
                        clear h1 hkl e1
                        go_wp2_with fail
                        refine (HT.out _).mono ?_
                        rintro e w' ⟨rfl, rfl⟩
                        go_wp2
                        go_roundg (n - f)
                        case measure => simp [intOf] at hgk; omega
                        case rel => exact ⟨by simp [intOf], m + 1, cn, btn, by have := HF.out; omega, HNum.out, by rw [HC.out], rfl, rfl, hbc, hbt, by rw [HC.out]; exact HP.out, rfl⟩
                    · have e2 : ((cn : Int) == bcn) = false := by simp; omega
                      have HC : Hid (pickTo (key l j k) (cand hk rj s) (m + 1) = p) := by show _ = _; rw [HNx.out, stepP_leave hp0 (fun h => by rcases hkl.1 h with h | h; exact h1 h; exact h2 h.1)]
                      have i1 : ¬ (cn : Int) < bcn := by omega
                      have i2 : ¬ (cn : Int) = bcn := by omega
                      clear hkl
                      go_wp2_with fail
                      refine (HT.out _).mono ?_
                      rintro e w' ⟨rfl, rfl⟩
                      go_wp2
                      go_roundg (n - f)
                      case measure => simp [intOf] at hgk; omega
                      case rel => exact ⟨by simp [intOf], m + 1, bcn, btn, by have := HF.out; omega, HNum.out, by rw [HC.out], rfl, rfl, hbc, hbt, by rw [HC.out]; exact HP.out, rfl⟩
        · rw [hbit2] at b1
          have HC : Hid (pickTo (key l j k) (cand hk rj s) (m + 1) = p) := by show _ = _; rw [HNx.out, stepP_no (by simp [cand, hbit2])]
          clear hbit hbit2
          go_wp2
          go_roundg (n - f)
          case measure => simp [intOf] at hgk; omega
          case rel => exact ⟨by simp [intOf], m + 1, bcn, btn, by have := HF.out; omega, HNum.out, by rw [HC.out], rfl, rfl, hbc, hbt, by rw [HC.out]; exact HP.out, rfl⟩
    · have HPk : Hid (pick n hk rj s l j k = p) := by
        show _ = _
        have e : m = n := by omega
        rw [← HEp.out, e]; rfl
      rw [HPk.out] at hexit
      clear ef
      go_wp2
      exact hexit ..
end Go.Proofs.Ybulkhjc.Bx
