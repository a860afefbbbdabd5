/-
  A loop of the law 'components are mutual reachability'.
-/
import Derived.Test.Qxb6001346aMut0
set_option linter.all false
namespace Go.Proofs.Qxb6001346a
open Go.RowKit Tj

set_option maxRecDepth 1000000 in
set_option maxHeartbeats 8000000 in
theorem mutH {w4 wr0 : World} {g : Gr} {n m bs os gM gR gF gA gB gQ p : Nat} {a1 a2 : Option Addr} {mask : Int} {k0 k1 k2 : Nat} (G : MG w4 g n m bs os a1 a2 mask) {u : Nat} (hu : u < n) (comp : Nat → Nat) (hM : Row w4 gM 21 n (fun i => .int .i32 ((comp i : Nat) : Int))) {c4 c5 c6 c7 c8 c11 c13 c14 c15 c17 c18 c19 c20 c21 c26 c27 c28 c29 c30 c31 c32 c33 c34 c36 c37 c38 c39 c40 c41 c42 c43 c44 c45 c46 c47 c48 c49 c50 c51 c52 c53 c54 c55 c56 c57 c58 c59 c60 c61 c62 c63 c64 c65 c66 c67 c68 c69 c70 c71 c72 c73 c74 c75 c76 c77 c78 c79 c80 c81 c82 c83 c84 c85 c86 c87 c88 c89 c90 c91 c92 c93 c94 c95 c96 c97 c98 c99 c100 c101 c102 c103 c104 c105 c106 c107 c108 c109 c110 c111 c112 c113 c114 c115 c116 c117 c118 c119 c120 c121 c122 c123 c124 c125 c126 c127 c128 c129 c130 c131 c132 c133 c134 c135 c136 c137 c138 c139 c140 c141 c142 c143 c144 c145 c146 c147 c148 c149 c150 c151 c152 c153 c154 c155 c156 c157 c158 c159 c160 c161 c162 c163 c164 c165 c166 c167 c168 c169 c170 c171 c172 c173 c174 c175 c176 c177 c178 c179 c180 c181 c182 c183 c184 c185 c186 c187 c188 c189 c190 c191 c192 c193 c194 c195 c196 c197 c198 c199 c200 c201 c202 c203 c204 c205 c206 c207 c208 c209 c210 c211 c212 c213 c214 c215 c216 c217 c218 c219 c220 c221 c222 c223 c224 c225 c226 c227 c228 c229 c230 c231 c232 c233 c234 c235 c236 c237 c238 c239 c240 c241 c242 c243 c244 c245 c246 c247 c248 c249 c250 c251 c252 c253 c254 c255 c256 c257 c258 c259 c260 c261 c262 c263 c264 c265 c266 c267 c268 c269 c270 c271 c272 c273 c274 c275 c276 c277 c278 c279 c280 c281 c282 c283 c284 c285 c286 c287 c288 c289 c290 c291 c292 c293 c294 c295 c296 c297 c298 c299 c300 c301 c302 c303 c304 c305 c306 c307 c308 c309 c310 c311 c312 c313 c314 c315 c316 c317 c318 c319 c320 c321 c322 c323 c324 c325 c326 c327 c328 c329 c330 c331 c332 c333 c334 c335 c336 c337 c338 c339 c340 c341 c342 c343 c344 c345 c346 c347 c348 c349 c350 : Value} (Q0 : Exit → Act → World → Prop) (rs rf : Nat → Nat) (mA mB : Nat → Bool) (q : Nat → Nat)
    (hexit : ∀ wr, WS w4 wr n p gR gF gA gB gQ rs rf mA mB q → ∀ d8 d35 d326 d327 d328 d329 d330 d331 d332 d333 d334 d335 d336 d337 d338 d339 d340 d341 d342 d343 d344 d345 d346 d347 d348 d349 d350 : Value, Q0 (.exit 24) ⟨(List.toArray ((.slice (some ⟨bs, os, none⟩) (n + 1) k0) :: (.slice a1 m k1) :: (.slice a2 m k2) :: (.int .u8 mask) :: c4 :: c5 :: c6 :: c7 :: d8 :: (.int .i64 (n : Int)) :: (.slice (some ⟨gM, 0, none⟩) n n) :: c11 :: (.slice (some ⟨gR, 0, none⟩) (n + 1) (n + 1)) :: c13 :: c14 :: c15 :: (.slice (some ⟨gF, 0, none⟩) p p) :: c17 :: c18 :: c19 :: c20 :: c21 :: (.slice (some ⟨gA, 0, none⟩) n n) :: (.slice (some ⟨gB, 0, none⟩) n n) :: (.slice (some ⟨gQ, 0, none⟩) n n) :: (.int .i64 (u : Int)) :: c26 :: c27 :: c28 :: c29 :: c30 :: c31 :: c32 :: c33 :: c34 :: d35 :: c36 :: c37 :: c38 :: c39 :: c40 :: c41 :: c42 :: c43 :: c44 :: c45 :: c46 :: c47 :: c48 :: c49 :: c50 :: c51 :: c52 :: c53 :: c54 :: c55 :: c56 :: c57 :: c58 :: c59 :: c60 :: c61 :: c62 :: c63 :: c64 :: c65 :: c66 :: c67 :: c68 :: c69 :: c70 :: c71 :: c72 :: c73 :: c74 :: c75 :: c76 :: c77 :: c78 :: c79 :: c80 :: c81 :: c82 :: c83 :: c84 :: c85 :: c86 :: c87 :: c88 :: c89 :: c90 :: c91 :: c92 :: c93 :: c94 :: c95 :: c96 :: c97 :: c98 :: c99 :: c100 :: c101 :: c102 :: c103 :: c104 :: c105 :: c106 :: c107 :: c108 :: c109 :: c110 :: c111 :: c112 :: c113 :: c114 :: c115 :: c116 :: c117 :: c118 :: c119 :: c120 :: c121 :: c122 :: c123 :: c124 :: c125 :: c126 :: c127 :: c128 :: c129 :: c130 :: c131 :: c132 :: c133 :: c134 :: c135 :: c136 :: c137 :: c138 :: c139 :: c140 :: c141 :: c142 :: c143 :: c144 :: c145 :: c146 :: c147 :: c148 :: c149 :: c150 :: c151 :: c152 :: c153 :: c154 :: c155 :: c156 :: c157 :: c158 :: c159 :: c160 :: c161 :: c162 :: c163 :: c164 :: c165 :: c166 :: c167 :: c168 :: c169 :: c170 :: c171 :: c172 :: c173 :: c174 :: c175 :: c176 :: c177 :: c178 :: c179 :: c180 :: c181 :: c182 :: c183 :: c184 :: c185 :: c186 :: c187 :: c188 :: c189 :: c190 :: c191 :: c192 :: c193 :: c194 :: c195 :: c196 :: c197 :: c198 :: c199 :: c200 :: c201 :: c202 :: c203 :: c204 :: c205 :: c206 :: c207 :: c208 :: c209 :: c210 :: c211 :: c212 :: c213 :: c214 :: c215 :: c216 :: c217 :: c218 :: c219 :: c220 :: c221 :: c222 :: c223 :: c224 :: c225 :: c226 :: c227 :: c228 :: c229 :: c230 :: c231 :: c232 :: c233 :: c234 :: c235 :: c236 :: c237 :: c238 :: c239 :: c240 :: c241 :: c242 :: c243 :: c244 :: c245 :: c246 :: c247 :: c248 :: c249 :: c250 :: c251 :: c252 :: c253 :: c254 :: c255 :: c256 :: c257 :: c258 :: c259 :: c260 :: c261 :: c262 :: c263 :: c264 :: c265 :: c266 :: c267 :: c268 :: c269 :: c270 :: c271 :: c272 :: c273 :: c274 :: c275 :: c276 :: c277 :: c278 :: c279 :: c280 :: c281 :: c282 :: c283 :: c284 :: c285 :: c286 :: c287 :: c288 :: c289 :: c290 :: c291 :: c292 :: c293 :: c294 :: c295 :: c296 :: c297 :: c298 :: c299 :: c300 :: c301 :: c302 :: c303 :: c304 :: c305 :: c306 :: c307 :: c308 :: c309 :: c310 :: c311 :: c312 :: c313 :: c314 :: c315 :: c316 :: c317 :: c318 :: c319 :: c320 :: c321 :: c322 :: c323 :: c324 :: c325 :: d326 :: d327 :: d328 :: d329 :: d330 :: d331 :: d332 :: d333 :: d334 :: d335 :: d336 :: d337 :: d338 :: d339 :: d340 :: d341 :: d342 :: d343 :: d344 :: d345 :: d346 :: d347 :: d348 :: d349 :: d350 :: [])), []⟩ wr)
    (hcmp : ∀ v, v < n → (comp u = comp v ↔ (mA v = true ∧ mB v = true))) (h0 : WS w4 wr0 n p gR gF gA gB gQ rs rf mA mB q) :
    Code.wp Try.prog (Code.loop ((Try.f3.body.bind (loopIn 24)).getD .skip)) Q0 ⟨(List.toArray ((.slice (some ⟨bs, os, none⟩) (n + 1) k0) :: (.slice a1 m k1) :: (.slice a2 m k2) :: (.int .u8 mask) :: c4 :: c5 :: c6 :: c7 :: c8 :: (.int .i64 (n : Int)) :: (.slice (some ⟨gM, 0, none⟩) n n) :: c11 :: (.slice (some ⟨gR, 0, none⟩) (n + 1) (n + 1)) :: c13 :: c14 :: c15 :: (.slice (some ⟨gF, 0, none⟩) p p) :: c17 :: c18 :: c19 :: c20 :: c21 :: (.slice (some ⟨gA, 0, none⟩) n n) :: (.slice (some ⟨gB, 0, none⟩) n n) :: (.slice (some ⟨gQ, 0, none⟩) n n) :: (.int .i64 (u : Int)) :: c26 :: c27 :: c28 :: c29 :: c30 :: c31 :: c32 :: c33 :: c34 :: (.int .i64 0) :: c36 :: c37 :: c38 :: c39 :: c40 :: c41 :: c42 :: c43 :: c44 :: c45 :: c46 :: c47 :: c48 :: c49 :: c50 :: c51 :: c52 :: c53 :: c54 :: c55 :: c56 :: c57 :: c58 :: c59 :: c60 :: c61 :: c62 :: c63 :: c64 :: c65 :: c66 :: c67 :: c68 :: c69 :: c70 :: c71 :: c72 :: c73 :: c74 :: c75 :: c76 :: c77 :: c78 :: c79 :: c80 :: c81 :: c82 :: c83 :: c84 :: c85 :: c86 :: c87 :: c88 :: c89 :: c90 :: c91 :: c92 :: c93 :: c94 :: c95 :: c96 :: c97 :: c98 :: c99 :: c100 :: c101 :: c102 :: c103 :: c104 :: c105 :: c106 :: c107 :: c108 :: c109 :: c110 :: c111 :: c112 :: c113 :: c114 :: c115 :: c116 :: c117 :: c118 :: c119 :: c120 :: c121 :: c122 :: c123 :: c124 :: c125 :: c126 :: c127 :: c128 :: c129 :: c130 :: c131 :: c132 :: c133 :: c134 :: c135 :: c136 :: c137 :: c138 :: c139 :: c140 :: c141 :: c142 :: c143 :: c144 :: c145 :: c146 :: c147 :: c148 :: c149 :: c150 :: c151 :: c152 :: c153 :: c154 :: c155 :: c156 :: c157 :: c158 :: c159 :: c160 :: c161 :: c162 :: c163 :: c164 :: c165 :: c166 :: c167 :: c168 :: c169 :: c170 :: c171 :: c172 :: c173 :: c174 :: c175 :: c176 :: c177 :: c178 :: c179 :: c180 :: c181 :: c182 :: c183 :: c184 :: c185 :: c186 :: c187 :: c188 :: c189 :: c190 :: c191 :: c192 :: c193 :: c194 :: c195 :: c196 :: c197 :: c198 :: c199 :: c200 :: c201 :: c202 :: c203 :: c204 :: c205 :: c206 :: c207 :: c208 :: c209 :: c210 :: c211 :: c212 :: c213 :: c214 :: c215 :: c216 :: c217 :: c218 :: c219 :: c220 :: c221 :: c222 :: c223 :: c224 :: c225 :: c226 :: c227 :: c228 :: c229 :: c230 :: c231 :: c232 :: c233 :: c234 :: c235 :: c236 :: c237 :: c238 :: c239 :: c240 :: c241 :: c242 :: c243 :: c244 :: c245 :: c246 :: c247 :: c248 :: c249 :: c250 :: c251 :: c252 :: c253 :: c254 :: c255 :: c256 :: c257 :: c258 :: c259 :: c260 :: c261 :: c262 :: c263 :: c264 :: c265 :: c266 :: c267 :: c268 :: c269 :: c270 :: c271 :: c272 :: c273 :: c274 :: c275 :: c276 :: c277 :: c278 :: c279 :: c280 :: c281 :: c282 :: c283 :: c284 :: c285 :: c286 :: c287 :: c288 :: c289 :: c290 :: c291 :: c292 :: c293 :: c294 :: c295 :: c296 :: c297 :: c298 :: c299 :: c300 :: c301 :: c302 :: c303 :: c304 :: c305 :: c306 :: c307 :: c308 :: c309 :: c310 :: c311 :: c312 :: c313 :: c314 :: c315 :: c316 :: c317 :: c318 :: c319 :: c320 :: c321 :: c322 :: c323 :: c324 :: c325 :: c326 :: c327 :: c328 :: c329 :: c330 :: c331 :: c332 :: c333 :: c334 :: c335 :: c336 :: c337 :: c338 :: c339 :: c340 :: c341 :: c342 :: c343 :: c344 :: c345 :: c346 :: c347 :: c348 :: c349 :: c350 :: [])), []⟩ wr0 := by
  conv => arg 2; arg 1; whnf
  go_loopg [35] n (fun k x wr => ∃ v : Nat, v ≤ n ∧ x = .int .i64 (v : Int) ∧ k = n - v ∧ WS w4 wr n p gR gF gA gB gQ rs rf mA mB q)
  case atStart => exact ⟨0, Nat.zero_le _, rfl, rfl, h0⟩
  case round =>
    obtain ⟨v, hv, rfl, hk, h⟩ := hrel
    have HK : Hid (gk = n - v) := hk
    have HC : Hid (∀ v, v < n → (comp u = comp v ↔ (mA v = true ∧ mB v = true))) := hcmp
    have HE : Hid (∀ wr, WS w4 wr n p gR gF gA gB gQ rs rf mA mB q → ∀ d8 d35 d326 d327 d328 d329 d330 d331 d332 d333 d334 d335 d336 d337 d338 d339 d340 d341 d342 d343 d344 d345 d346 d347 d348 d349 d350 : Value, Q0 (.exit 24) ⟨(List.toArray ((.slice (some ⟨bs, os, none⟩) (n + 1) k0) :: (.slice a1 m k1) :: (.slice a2 m k2) :: (.int .u8 mask) :: c4 :: c5 :: c6 :: c7 :: d8 :: (.int .i64 (n : Int)) :: (.slice (some ⟨gM, 0, none⟩) n n) :: c11 :: (.slice (some ⟨gR, 0, none⟩) (n + 1) (n + 1)) :: c13 :: c14 :: c15 :: (.slice (some ⟨gF, 0, none⟩) p p) :: c17 :: c18 :: c19 :: c20 :: c21 :: (.slice (some ⟨gA, 0, none⟩) n n) :: (.slice (some ⟨gB, 0, none⟩) n n) :: (.slice (some ⟨gQ, 0, none⟩) n n) :: (.int .i64 (u : Int)) :: c26 :: c27 :: c28 :: c29 :: c30 :: c31 :: c32 :: c33 :: c34 :: d35 :: c36 :: c37 :: c38 :: c39 :: c40 :: c41 :: c42 :: c43 :: c44 :: c45 :: c46 :: c47 :: c48 :: c49 :: c50 :: c51 :: c52 :: c53 :: c54 :: c55 :: c56 :: c57 :: c58 :: c59 :: c60 :: c61 :: c62 :: c63 :: c64 :: c65 :: c66 :: c67 :: c68 :: c69 :: c70 :: c71 :: c72 :: c73 :: c74 :: c75 :: c76 :: c77 :: c78 :: c79 :: c80 :: c81 :: c82 :: c83 :: c84 :: c85 :: c86 :: c87 :: c88 :: c89 :: c90 :: c91 :: c92 :: c93 :: c94 :: c95 :: c96 :: c97 :: c98 :: c99 :: c100 :: c101 :: c102 :: c103 :: c104 :: c105 :: c106 :: c107 :: c108 :: c109 :: c110 :: c111 :: c112 :: c113 :: c114 :: c115 :: c116 :: c117 :: c118 :: c119 :: c120 :: c121 :: c122 :: c123 :: c124 :: c125 :: c126 :: c127 :: c128 :: c129 :: c130 :: c131 :: c132 :: c133 :: c134 :: c135 :: c136 :: c137 :: c138 :: c139 :: c140 :: c141 :: c142 :: c143 :: c144 :: c145 :: c146 :: c147 :: c148 :: c149 :: c150 :: c151 :: c152 :: c153 :: c154 :: c155 :: c156 :: c157 :: c158 :: c159 :: c160 :: c161 :: c162 :: c163 :: c164 :: c165 :: c166 :: c167 :: c168 :: c169 :: c170 :: c171 :: c172 :: c173 :: c174 :: c175 :: c176 :: c177 :: c178 :: c179 :: c180 :: c181 :: c182 :: c183 :: c184 :: c185 :: c186 :: c187 :: c188 :: c189 :: c190 :: c191 :: c192 :: c193 :: c194 :: c195 :: c196 :: c197 :: c198 :: c199 :: c200 :: c201 :: c202 :: c203 :: c204 :: c205 :: c206 :: c207 :: c208 :: c209 :: c210 :: c211 :: c212 :: c213 :: c214 :: c215 :: c216 :: c217 :: c218 :: c219 :: c220 :: c221 :: c222 :: c223 :: c224 :: c225 :: c226 :: c227 :: c228 :: c229 :: c230 :: c231 :: c232 :: c233 :: c234 :: c235 :: c236 :: c237 :: c238 :: c239 :: c240 :: c241 :: c242 :: c243 :: c244 :: c245 :: c246 :: c247 :: c248 :: c249 :: c250 :: c251 :: c252 :: c253 :: c254 :: c255 :: c256 :: c257 :: c258 :: c259 :: c260 :: c261 :: c262 :: c263 :: c264 :: c265 :: c266 :: c267 :: c268 :: c269 :: c270 :: c271 :: c272 :: c273 :: c274 :: c275 :: c276 :: c277 :: c278 :: c279 :: c280 :: c281 :: c282 :: c283 :: c284 :: c285 :: c286 :: c287 :: c288 :: c289 :: c290 :: c291 :: c292 :: c293 :: c294 :: c295 :: c296 :: c297 :: c298 :: c299 :: c300 :: c301 :: c302 :: c303 :: c304 :: c305 :: c306 :: c307 :: c308 :: c309 :: c310 :: c311 :: c312 :: c313 :: c314 :: c315 :: c316 :: c317 :: c318 :: c319 :: c320 :: c321 :: c322 :: c323 :: c324 :: c325 :: d326 :: d327 :: d328 :: d329 :: d330 :: d331 :: d332 :: d333 :: d334 :: d335 :: d336 :: d337 :: d338 :: d339 :: d340 :: d341 :: d342 :: d343 :: d344 :: d345 :: d346 :: d347 :: d348 :: d349 :: d350 :: [])), []⟩ wr) := hexit
    have hnn := G.n_le
    clear hk h0 hexit hcmp
    by_cases hlt : v < n
    · have cu : wr.cell? ⟨gM, u, none⟩ = some (.int .i32 (comp u : Int)) := (h.below.cell (p := ⟨gM, u, none⟩) hM.lt).trans (hM.cell hu)
      have cv : wr.cell? ⟨gM, v, none⟩ = some (.int .i32 (comp v : Int)) := (h.below.cell (p := ⟨gM, v, none⟩) hM.lt).trans (hM.cell hlt)
      have ca : wr.cell? ⟨gA, v, none⟩ = some (.bool (mA v)) := h.rA.cell hlt
      have cb : wr.cell? ⟨gB, v, none⟩ = some (.bool (mB v)) := h.rB.cell hlt
      have q1 : (0 : Int) ≤ (u : Int) := by omega
      have q2 : (u : Int) < (n : Int) := by omega
      have q3 : (0 : Int) ≤ (v : Int) := by omega
      have q4 : (v : Int) < (n : Int) := by omega
      have hiff := HC.out v hlt
      have hbool : ((comp u : Int) == (comp v : Int)) = (mA v && mB v) := by
        rw [Bool.eq_iff_iff]
        simp only [beq_iff_eq, Bool.and_eq_true]
        constructor
        · intro e; exact hiff.1 (by omega)
        · intro e; have := hiff.2 e; omega
      clear hiff
      cases ea : mA v with
      | false =>
        rw [ea] at hbool ca
        have hb2 : ((comp u : Int) == (comp v : Int)) = false := by rw [hbool]; rfl
        clear hbool ea
        go_upto_region 86 with fail
        go_quiet (fail)
        go_wp2_with fail
        go_roundg (n - (v + 1))
        case measure => rw [HK.out]; omega
        case rel => exact ⟨v + 1, by omega, by go_num, rfl, h.drewN _⟩
      | true =>
        rw [ea] at hbool ca
        cases eb : mB v with
        | false =>
          rw [eb] at hbool cb
          have hb2 : ((comp u : Int) == (comp v : Int)) = false := by rw [hbool]; rfl
          clear hbool ea eb
          go_upto_region 86 with fail
          go_quiet (fail)
          go_wp2_with fail
          go_roundg (n - (v + 1))
          case measure => rw [HK.out]; omega
          case rel => exact ⟨v + 1, by omega, by go_num, rfl, h.drewN _⟩
        | true =>
          rw [eb] at hbool cb
          have hb2 : ((comp u : Int) == (comp v : Int)) = true := by rw [hbool]; rfl
          clear hbool ea eb
          go_upto_region 86 with fail
          go_quiet (fail)
          go_wp2_with fail
          go_roundg (n - (v + 1))
          case measure => rw [HK.out]; omega
          case rel => exact ⟨v + 1, by omega, by go_num, rfl, h.drewN _⟩
    · go_wp2_with fail
      exact HE.out _ h _ _ _ _ _ _ _ _ _ _ _ _ _ _ _ _ _ _ _ _ _ _ _ _ _ _ _
end Go.Proofs.Qxb6001346a
