import Derived.Test.YbulkhjcBxC
namespace Go.Proofs.Ybulkhjc.Bx
open Go.RowKit

/-- the statement that parts on slot t -/
def condOf (t : Nat) : Code → Option Code
  | .cond (.tmp u) a b => if u == t then some (.cond (.tmp u) a b) else match condOf t a with
    | some c => some c
    | none => condOf t b
  | .seq a b => match condOf t a with
    | some c => some c
    | none => condOf t b
  | .loop c => condOf t c
  | .block _ c => condOf t c
  | .scope c => condOf t c
  | _ => none
noncomputable def ifWanted : Code := ((Yba.f5.body.bind (condOf 156)).getD .skip)

set_option maxRecDepth 1000000 in
set_option maxHeartbeats 4000000 in
theorem if_wanted (n t s j b a x ol g4 cap4 rj : Nat) (ha : Option Addr) (hl hc : Nat) (hz hm : Nat → Nat) (ra : Option Addr) (rl rc : Nat) (rz : Nat → Nat) (l0 out : List (Nat × Nat)) (w : World) (Q : Exit → Act → World → Prop)
    (hn16 : n ≤ 16) (hb48 : b < 48) (hj1 : 1 ≤ j) (hjn : j ≤ n) (htn : t < n) (han : a ≤ n) (ha0 : a ≠ 0) (hrj2 : rj < 2 ^ n) (hHm : mk hz hl n = hm) (hRj : mk rz rl n (j - 1) = rj) (hl0 : l0.length = x) (hOl : out.length = ol) (hol : ol ≤ 1072)
    (hRes : out = res n t s j b a hm rj l0) (hRow : Row16 w ha hl hz) (hRef : Row16 w ra rl rz) (hDs : DsAt w g4 out) {c0 c1 c2 c3 c4 c7 c8 c9 c10 c11 c12 c13 c14 c15 c16 c17 c18 c24 c25 c26 c27 c29 c32 c33 c34 c35 c36 c37 c38 c39 c40 c41 c42 c43 c44 c45 c46 c47 c48 c49 c50 c51 c52 c53 c54 c55 c56 c57 c58 c59 c60 c61 c62 c63 c64 c65 c66 c67 c68 c69 c70 c71 c72 c73 c74 c75 c76 c77 c78 c79 c80 c81 c82 c83 c84 c85 c86 c87 c88 c89 c90 c91 c92 c93 c94 c95 c96 c97 c98 c99 c100 c101 c102 c103 c104 c105 c106 c107 c108 c109 c110 c111 c112 c113 c114 c115 c116 c117 c118 c119 c120 c121 c122 c123 c124 c125 c126 c127 c128 c129 c130 c131 c132 c133 c134 c135 c136 c137 c138 c139 c140 c141 c142 c143 c144 c145 c146 c147 c148 c149 c150 c151 c152 c153 c154 c155 c157 c158 c159 c160 c161 c162 c163 c164 c165 c166 c167 c168 c169 c170 c171 c172 c173 c174 c175 c176 c177 c178 c179 c180 c181 c182 c183 c184 c185 c186 c187 c188 c189 c190 c191 c192 c193 c194 c195 c196 c197 c198 c199 c200 c201 c202 c203 c204 c205 c206 c207 c208 c209 c210 c211 c212 c213 c214 c215 c216 c217 c218 c219 c220 c221 c222 c223 c224 c225 c226 c227 c228 c229 c230 c231 c232 c233 c234 c235 c236 c237 c238 c239 c240 c241 c242 c243 c244 c245 c246 c247 c248 c249 c250 c251 c252 c253 c254 c255 c256 c257 c258 c259 c260 c261 c262 c263 c264 c265 c266 c267 c268 c269 c270 c271 c272 c273 c274 c275 c276 c277 c278 c279 c280 c281 c282 c283 c284 c285 c286 c287 c288 c289 c290 c291 c292 c293 c294 c295 c296 c297 c298 c299 c300 c301 c302 c303 c304 c305 c306 c307 c308 c309 c310 : Value}
    (hexit : ∀ u18 u32 u33 u34 u35 u36 u37 u38 u39 u40 u41 u42 u43 u44 u157 u158 u159 u160 u161 u162 u163 u164 u165 u166 u167 u168 u169 u170 u171 u172 u173 u174 u175 u176 u177 u178 u179 u180 u181 u182 u183 u184 u185 u186 u187 u188 u189 u190 u191 u192 u193 u194 u195 u196 u197 u198 u199 u200 u201 u202 u203 u204 u205 u206 u207 u208 u209 u210 u211 u212 u213 u214 u215 u216 u217 u218 u219 u220 u221 u222 u223 u224 u225 u226 u227 u228 u229 u230 u231 u232 u233 u234 u235 u236 u237 u238 u239 u240 u241 u242 u243 u244 u245 u246 u247 u248 u249 u250 u251 u252 u253 u254 u255 u256 u257 u258 u259 u260 u261 u262 u263 u264 u265 u266 u267 u268 u269 u270 u271 u272 u273 u274 u275 u276 u277 u278 u279 u280 u281 u282 u283 u284 u285 u286 u287 u288 u289 u290 u291 u292 u293 u294 u295 u296 u297 u298 u299 u300 u301 u302 u303 u304 u305 u306 : Value, Q .normal ⟨(c0 :: c1 :: c2 :: c3 :: c4 :: .slice ha hl hc :: .slice ra rl rc :: c7 :: c8 :: c9 :: c10 :: c11 :: c12 :: c13 :: c14 :: c15 :: c16 :: c17 :: u18 :: .int .i64 (n : Int) :: .int .i64 (t : Int) :: .int .i64 (s : Int) :: .int .i64 (j : Int) :: .int .i64 (b : Int) :: c24 :: c25 :: c26 :: c27 :: .slice (some ⟨g4, 0, none⟩) ol cap4 :: c29 :: .int .i64 (ol : Int) :: .int .i64 (a : Int) :: u32 :: u33 :: u34 :: u35 :: u36 :: u37 :: u38 :: u39 :: u40 :: u41 :: u42 :: u43 :: u44 :: c45 :: c46 :: c47 :: c48 :: c49 :: c50 :: c51 :: c52 :: c53 :: c54 :: c55 :: c56 :: c57 :: c58 :: c59 :: c60 :: c61 :: c62 :: c63 :: c64 :: c65 :: c66 :: c67 :: c68 :: c69 :: c70 :: c71 :: c72 :: c73 :: c74 :: c75 :: c76 :: c77 :: c78 :: c79 :: c80 :: c81 :: c82 :: c83 :: c84 :: c85 :: c86 :: c87 :: c88 :: c89 :: c90 :: c91 :: c92 :: c93 :: c94 :: c95 :: c96 :: c97 :: c98 :: c99 :: c100 :: c101 :: c102 :: c103 :: c104 :: c105 :: c106 :: c107 :: c108 :: c109 :: c110 :: c111 :: c112 :: c113 :: c114 :: c115 :: c116 :: c117 :: c118 :: c119 :: c120 :: c121 :: c122 :: c123 :: c124 :: c125 :: c126 :: c127 :: c128 :: c129 :: c130 :: c131 :: c132 :: c133 :: c134 :: c135 :: c136 :: c137 :: c138 :: c139 :: c140 :: c141 :: c142 :: c143 :: c144 :: c145 :: c146 :: c147 :: c148 :: c149 :: c150 :: c151 :: c152 :: c153 :: c154 :: c155 :: .bool true :: u157 :: u158 :: u159 :: u160 :: u161 :: u162 :: u163 :: u164 :: u165 :: u166 :: u167 :: u168 :: u169 :: u170 :: u171 :: u172 :: u173 :: u174 :: u175 :: u176 :: u177 :: u178 :: u179 :: u180 :: u181 :: u182 :: u183 :: u184 :: u185 :: u186 :: u187 :: u188 :: u189 :: u190 :: u191 :: u192 :: u193 :: u194 :: u195 :: u196 :: u197 :: u198 :: u199 :: u200 :: u201 :: u202 :: u203 :: u204 :: u205 :: u206 :: u207 :: u208 :: u209 :: u210 :: u211 :: u212 :: u213 :: u214 :: u215 :: u216 :: u217 :: u218 :: u219 :: u220 :: u221 :: u222 :: u223 :: u224 :: u225 :: u226 :: u227 :: u228 :: u229 :: u230 :: u231 :: u232 :: u233 :: u234 :: u235 :: u236 :: u237 :: u238 :: u239 :: u240 :: u241 :: u242 :: u243 :: u244 :: u245 :: u246 :: u247 :: u248 :: u249 :: u250 :: u251 :: u252 :: u253 :: u254 :: u255 :: u256 :: u257 :: u258 :: u259 :: u260 :: u261 :: u262 :: u263 :: u264 :: u265 :: u266 :: u267 :: u268 :: u269 :: u270 :: u271 :: u272 :: u273 :: u274 :: u275 :: u276 :: u277 :: u278 :: u279 :: u280 :: u281 :: u282 :: u283 :: u284 :: u285 :: u286 :: u287 :: u288 :: u289 :: u290 :: u291 :: u292 :: u293 :: u294 :: u295 :: u296 :: u297 :: u298 :: u299 :: u300 :: u301 :: u302 :: u303 :: u304 :: u305 :: u306 :: c307 :: c308 :: c309 :: c310 :: []).toArray, []⟩ w) :
    Code.wp Yba.prog ifWanted Q ⟨(c0 :: c1 :: c2 :: c3 :: c4 :: .slice ha hl hc :: .slice ra rl rc :: c7 :: c8 :: c9 :: c10 :: c11 :: c12 :: c13 :: c14 :: c15 :: c16 :: c17 :: c18 :: .int .i64 (n : Int) :: .int .i64 (t : Int) :: .int .i64 (s : Int) :: .int .i64 (j : Int) :: .int .i64 (b : Int) :: c24 :: c25 :: c26 :: c27 :: .slice (some ⟨g4, 0, none⟩) ol cap4 :: c29 :: .int .i64 (x : Int) :: .int .i64 (a : Int) :: c32 :: c33 :: c34 :: c35 :: c36 :: c37 :: c38 :: c39 :: c40 :: c41 :: c42 :: c43 :: c44 :: c45 :: c46 :: c47 :: c48 :: c49 :: c50 :: c51 :: c52 :: c53 :: c54 :: c55 :: c56 :: c57 :: c58 :: c59 :: c60 :: c61 :: c62 :: c63 :: c64 :: c65 :: c66 :: c67 :: c68 :: c69 :: c70 :: c71 :: c72 :: c73 :: c74 :: c75 :: c76 :: c77 :: c78 :: c79 :: c80 :: c81 :: c82 :: c83 :: c84 :: c85 :: c86 :: c87 :: c88 :: c89 :: c90 :: c91 :: c92 :: c93 :: c94 :: c95 :: c96 :: c97 :: c98 :: c99 :: c100 :: c101 :: c102 :: c103 :: c104 :: c105 :: c106 :: c107 :: c108 :: c109 :: c110 :: c111 :: c112 :: c113 :: c114 :: c115 :: c116 :: c117 :: c118 :: c119 :: c120 :: c121 :: c122 :: c123 :: c124 :: c125 :: c126 :: c127 :: c128 :: c129 :: c130 :: c131 :: c132 :: c133 :: c134 :: c135 :: c136 :: c137 :: c138 :: c139 :: c140 :: c141 :: c142 :: c143 :: c144 :: c145 :: c146 :: c147 :: c148 :: c149 :: c150 :: c151 :: c152 :: c153 :: c154 :: c155 :: .bool true :: c157 :: c158 :: c159 :: c160 :: c161 :: c162 :: c163 :: c164 :: c165 :: c166 :: c167 :: c168 :: c169 :: c170 :: c171 :: c172 :: c173 :: c174 :: c175 :: c176 :: c177 :: c178 :: c179 :: c180 :: c181 :: c182 :: c183 :: c184 :: c185 :: c186 :: c187 :: c188 :: c189 :: c190 :: c191 :: c192 :: c193 :: c194 :: c195 :: c196 :: c197 :: c198 :: c199 :: c200 :: c201 :: c202 :: c203 :: c204 :: c205 :: c206 :: c207 :: c208 :: c209 :: c210 :: c211 :: c212 :: c213 :: c214 :: c215 :: c216 :: c217 :: c218 :: c219 :: c220 :: c221 :: c222 :: c223 :: c224 :: c225 :: c226 :: c227 :: c228 :: c229 :: c230 :: c231 :: c232 :: c233 :: c234 :: c235 :: c236 :: c237 :: c238 :: c239 :: c240 :: c241 :: c242 :: c243 :: c244 :: c245 :: c246 :: c247 :: c248 :: c249 :: c250 :: c251 :: c252 :: c253 :: c254 :: c255 :: c256 :: c257 :: c258 :: c259 :: c260 :: c261 :: c262 :: c263 :: c264 :: c265 :: c266 :: c267 :: c268 :: c269 :: c270 :: c271 :: c272 :: c273 :: c274 :: c275 :: c276 :: c277 :: c278 :: c279 :: c280 :: c281 :: c282 :: c283 :: c284 :: c285 :: c286 :: c287 :: c288 :: c289 :: c290 :: c291 :: c292 :: c293 :: c294 :: c295 :: c296 :: c297 :: c298 :: c299 :: c300 :: c301 :: c302 :: c303 :: c304 :: c305 :: c306 :: c307 :: c308 :: c309 :: c310 :: []).toArray, []⟩ w := by
  conv => arg 2; whnf
  have HRes : Hid (out = outL n s j b hm rj (max a (b - t)) l0 (min b n + 1 - max a (b - t))) := by
    show _ = _
    rw [hRes, res, if_neg ha0]
  have HMr : Hid (Calls Yba.prog 13 #[.slice ra rl rc, .int .i64 ((j : Int) - 1), .int .i64 n] w fun e w' => e = .returned (.int .u16 rj) ∧ w' = w) := by
    have h := mask_any ra rl rc (j - 1) n rz w hRef hn16
    rw [show (((j - 1 : Nat)) : Int) = (j : Int) - 1 from by omega, hRj] at h
    exact h
  have HDs : Hid (DsAt w g4 out) := hDs
  have HRow : Hid (Row16 w ha hl hz) := hRow
  have HRj2 : Hid (rj < 2 ^ n) := hrj2
  have HHm : Hid (mk hz hl n = hm) := hHm
  have HL0 : Hid (l0.length = x) := hl0
  have HOl : Hid (out.length = ol) := hOl
  have ha1 : 1 ≤ a := by omega
  clear hRes hRef hDs hRow hrj2 hHm hl0 hOl hRj ha0
  by_cases h1 : (a : Int) < (b : Int) - t
  · have d1 : decide ((a : Int) < (b : Int) - t) = true := by simp [h1]
    obtain ⟨lo, elo⟩ : ∃ lo, lo = b - t := ⟨_, rfl⟩
    have hlo : (b : Int) - t = (lo : Int) := by omega
    have HRes : Hid (out = outL n s j b hm rj lo l0 (min b n + 1 - lo)) := by
      have h := HRes.out
      rw [show max a (b - t) = lo from by omega] at h
      exact h
    have hlo1 : 1 ≤ lo := by omega
    clear elo
    by_cases h2 : (n : Int) < (b : Int)
    · have d2 : decide ((n : Int) < (b : Int)) = true := by simp; omega
      have HRes : Hid (out = outL n s j b hm rj lo l0 (n + 1 - lo)) := by
        have h := HRes.out
        rw [show min b n = n from by omega] at h
        exact h
      go_wp2_with fail
      refine HMr.out.mono ?_
      rintro e w' ⟨rfl, rfl⟩
      go_wp2
      refine loop3 n s j b x ol g4 cap4 n lo rj ha hl hc hz hm l0 out _ _ hn16 hb48 hj1 hjn hlo1 (Nat.le_refl _) HRj2.out HHm.out HL0.out HOl.out hol HRes.out HRow.out HDs.out ?_
      intros
      go_wp2
      exact hexit ..
    · have d2 : decide ((n : Int) < (b : Int)) = false := by simp; omega
      have HRes : Hid (out = outL n s j b hm rj lo l0 (b + 1 - lo)) := by
        have h := HRes.out
        rw [show min b n = b from by omega] at h
        exact h
      go_wp2_with fail
      refine HMr.out.mono ?_
      rintro e w' ⟨rfl, rfl⟩
      go_wp2
      refine loop3 n s j b x ol g4 cap4 b lo rj ha hl hc hz hm l0 out _ _ hn16 hb48 hj1 hjn hlo1 (by omega) HRj2.out HHm.out HL0.out HOl.out hol HRes.out HRow.out HDs.out ?_
      intros
      go_wp2
      exact hexit ..
  · have d1 : decide ((a : Int) < (b : Int) - t) = false := by simp; omega
    have HRes : Hid (out = outL n s j b hm rj a l0 (min b n + 1 - a)) := by
      have h := HRes.out
      rw [show max a (b - t) = a from by omega] at h
      exact h
    by_cases h2 : (n : Int) < (b : Int)
    · have d2 : decide ((n : Int) < (b : Int)) = true := by simp; omega
      have HRes : Hid (out = outL n s j b hm rj a l0 (n + 1 - a)) := by
        have h := HRes.out
        rw [show min b n = n from by omega] at h
        exact h
      go_wp2_with fail
      refine HMr.out.mono ?_
      rintro e w' ⟨rfl, rfl⟩
      go_wp2
      refine loop3 n s j b x ol g4 cap4 n a rj ha hl hc hz hm l0 out _ _ hn16 hb48 hj1 hjn ha1 (Nat.le_refl _) HRj2.out HHm.out HL0.out HOl.out hol HRes.out HRow.out HDs.out ?_
      intros
      go_wp2
      exact hexit ..
    · have d2 : decide ((n : Int) < (b : Int)) = false := by simp; omega
      have HRes : Hid (out = outL n s j b hm rj a l0 (b + 1 - a)) := by
        have h := HRes.out
        rw [show min b n = b from by omega] at h
        exact h
      go_wp2_with fail
      refine HMr.out.mono ?_
      rintro e w' ⟨rfl, rfl⟩
      go_wp2
      refine loop3 n s j b x ol g4 cap4 b a rj ha hl hc hz hm l0 out _ _ hn16 hb48 hj1 hjn ha1 (by omega) HRj2.out HHm.out HL0.out HOl.out hol HRes.out HRow.out HDs.out ?_
      intros
      go_wp2
      exact hexit ..
end Go.Proofs.Ybulkhjc.Bx
