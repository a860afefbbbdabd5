/-
  A loop of the law 'components are mutual reachability'.
-/
import Derived.Test.Qxb6001346aMut0
set_option linter.all false
namespace Go.Proofs.Qxb6001346a
open Go.RowKit Tj

set_option maxRecDepth 1000000 in
set_option maxHeartbeats 8000000 in
theorem mutF {w4 wr0 : World} {g : Gr} {n m bs os gM gR gF gA gB gQ p : Nat} {a1 a2 : Option Addr} {mask : Int} {k0 k1 k2 : Nat} (G : MG w4 g n m bs os a1 a2 mask) {u : Nat} (hu : u < n) {c4 c5 c6 c7 c8 c11 c13 c14 c15 c17 c18 c19 c20 c21 c26 c29 c30 c31 c32 c33 c34 c35 c36 c37 c38 c39 c40 c41 c42 c43 c44 c45 c46 c47 c48 c49 c50 c51 c52 c53 c54 c55 c56 c57 c58 c59 c60 c61 c62 c63 c64 c65 c66 c67 c68 c69 c70 c71 c72 c73 c74 c75 c76 c77 c78 c79 c80 c81 c82 c83 c84 c85 c86 c87 c88 c89 c90 c91 c92 c93 c94 c95 c96 c97 c98 c99 c100 c101 c102 c103 c104 c105 c106 c107 c108 c109 c110 c111 c112 c113 c114 c115 c116 c117 c118 c119 c120 c121 c122 c123 c124 c125 c126 c127 c128 c129 c130 c131 c132 c133 c134 c135 c136 c137 c138 c139 c140 c141 c142 c143 c144 c145 c146 c147 c148 c149 c150 c151 c152 c153 c154 c155 c156 c157 c158 c159 c160 c161 c162 c163 c164 c165 c166 c167 c168 c169 c170 c171 c172 c173 c174 c175 c176 c177 c178 c179 c180 c181 c182 c183 c184 c185 c186 c187 c188 c189 c190 c191 c192 c193 c194 c195 c196 c197 c198 c199 c200 c201 c202 c203 c204 c205 c206 c207 c208 c209 c210 c211 c212 c213 c214 c215 c216 c217 c218 c219 c220 c221 c222 c223 c224 c225 c226 c227 c228 c229 c230 c231 c232 c233 c234 c235 c236 c237 c238 c239 c240 c241 c242 c243 c244 c245 c246 c247 c248 c249 c250 c251 c252 c253 c254 c255 c256 c257 c258 c259 c260 c261 c262 c263 c264 c265 c266 c267 c268 c269 c270 c271 c272 c273 c274 c275 c276 c277 c278 c279 c280 c281 c282 c283 c284 c285 c286 c287 c288 c289 c290 c291 c292 c293 c294 c295 c296 c297 c298 c299 c300 c301 c302 c303 c304 c305 c306 c307 c308 c309 c310 c311 c312 c313 c314 c315 c316 c317 c318 c319 c320 c321 c322 c323 c324 c325 c326 c327 c328 c329 c330 c331 c332 c333 c334 c335 c336 c337 c338 c339 c340 c341 c342 c343 c344 c345 c346 c347 c348 c349 c350 : Value} (Q0 : Exit → Act → World → Prop) (rs rf : Nat → Nat) (mB : Nat → Bool)
    (hexit : ∀ wr mA q, WS w4 wr n p gR gF gA gB gQ rs rf mA mB q → (∀ x, mA x = true ↔ Tj.Reach g u x) → ∀ d27 d28 d29 d30 d31 d230 d231 d232 d233 d234 d235 d236 d237 d238 d239 d240 d241 d242 d243 d244 d245 d246 d247 d248 d249 d250 d251 d252 d253 d254 d255 d256 d257 d258 d259 d260 d261 d262 d263 d264 d265 d266 d267 d268 d269 d270 d271 d272 d273 d274 d275 d276 d277 d278 d279 : Value, Q0 (.exit 16) ⟨(List.toArray ((.slice (some ⟨bs, os, none⟩) (n + 1) k0) :: (.slice a1 m k1) :: (.slice a2 m k2) :: (.int .u8 mask) :: c4 :: c5 :: c6 :: c7 :: c8 :: (.int .i64 (n : Int)) :: (.slice (some ⟨gM, 0, none⟩) n n) :: c11 :: (.slice (some ⟨gR, 0, none⟩) (n + 1) (n + 1)) :: c13 :: c14 :: c15 :: (.slice (some ⟨gF, 0, none⟩) p p) :: c17 :: c18 :: c19 :: c20 :: c21 :: (.slice (some ⟨gA, 0, none⟩) n n) :: (.slice (some ⟨gB, 0, none⟩) n n) :: (.slice (some ⟨gQ, 0, none⟩) n n) :: (.int .i64 (u : Int)) :: c26 :: d27 :: d28 :: d29 :: d30 :: d31 :: c32 :: c33 :: c34 :: c35 :: c36 :: c37 :: c38 :: c39 :: c40 :: c41 :: c42 :: c43 :: c44 :: c45 :: c46 :: c47 :: c48 :: c49 :: c50 :: c51 :: c52 :: c53 :: c54 :: c55 :: c56 :: c57 :: c58 :: c59 :: c60 :: c61 :: c62 :: c63 :: c64 :: c65 :: c66 :: c67 :: c68 :: c69 :: c70 :: c71 :: c72 :: c73 :: c74 :: c75 :: c76 :: c77 :: c78 :: c79 :: c80 :: c81 :: c82 :: c83 :: c84 :: c85 :: c86 :: c87 :: c88 :: c89 :: c90 :: c91 :: c92 :: c93 :: c94 :: c95 :: c96 :: c97 :: c98 :: c99 :: c100 :: c101 :: c102 :: c103 :: c104 :: c105 :: c106 :: c107 :: c108 :: c109 :: c110 :: c111 :: c112 :: c113 :: c114 :: c115 :: c116 :: c117 :: c118 :: c119 :: c120 :: c121 :: c122 :: c123 :: c124 :: c125 :: c126 :: c127 :: c128 :: c129 :: c130 :: c131 :: c132 :: c133 :: c134 :: c135 :: c136 :: c137 :: c138 :: c139 :: c140 :: c141 :: c142 :: c143 :: c144 :: c145 :: c146 :: c147 :: c148 :: c149 :: c150 :: c151 :: c152 :: c153 :: c154 :: c155 :: c156 :: c157 :: c158 :: c159 :: c160 :: c161 :: c162 :: c163 :: c164 :: c165 :: c166 :: c167 :: c168 :: c169 :: c170 :: c171 :: c172 :: c173 :: c174 :: c175 :: c176 :: c177 :: c178 :: c179 :: c180 :: c181 :: c182 :: c183 :: c184 :: c185 :: c186 :: c187 :: c188 :: c189 :: c190 :: c191 :: c192 :: c193 :: c194 :: c195 :: c196 :: c197 :: c198 :: c199 :: c200 :: c201 :: c202 :: c203 :: c204 :: c205 :: c206 :: c207 :: c208 :: c209 :: c210 :: c211 :: c212 :: c213 :: c214 :: c215 :: c216 :: c217 :: c218 :: c219 :: c220 :: c221 :: c222 :: c223 :: c224 :: c225 :: c226 :: c227 :: c228 :: c229 :: d230 :: d231 :: d232 :: d233 :: d234 :: d235 :: d236 :: d237 :: d238 :: d239 :: d240 :: d241 :: d242 :: d243 :: d244 :: d245 :: d246 :: d247 :: d248 :: d249 :: d250 :: d251 :: d252 :: d253 :: d254 :: d255 :: d256 :: d257 :: d258 :: d259 :: d260 :: d261 :: d262 :: d263 :: d264 :: d265 :: d266 :: d267 :: d268 :: d269 :: d270 :: d271 :: d272 :: d273 :: d274 :: d275 :: d276 :: d277 :: d278 :: d279 :: c280 :: c281 :: c282 :: c283 :: c284 :: c285 :: c286 :: c287 :: c288 :: c289 :: c290 :: c291 :: c292 :: c293 :: c294 :: c295 :: c296 :: c297 :: c298 :: c299 :: c300 :: c301 :: c302 :: c303 :: c304 :: c305 :: c306 :: c307 :: c308 :: c309 :: c310 :: c311 :: c312 :: c313 :: c314 :: c315 :: c316 :: c317 :: c318 :: c319 :: c320 :: c321 :: c322 :: c323 :: c324 :: c325 :: c326 :: c327 :: c328 :: c329 :: c330 :: c331 :: c332 :: c333 :: c334 :: c335 :: c336 :: c337 :: c338 :: c339 :: c340 :: c341 :: c342 :: c343 :: c344 :: c345 :: c346 :: c347 :: c348 :: c349 :: c350 :: [])), []⟩ wr)
    (q0 : Nat → Nat) (hq0 : q0 0 = u) (h0 : WS w4 wr0 n p gR gF gA gB gQ rs rf (fun x => x == u) mB q0) :
    Code.wp Try.prog (Code.loop ((Try.f3.body.bind (loopIn 16)).getD .skip)) Q0 ⟨(List.toArray ((.slice (some ⟨bs, os, none⟩) (n + 1) k0) :: (.slice a1 m k1) :: (.slice a2 m k2) :: (.int .u8 mask) :: c4 :: c5 :: c6 :: c7 :: c8 :: (.int .i64 (n : Int)) :: (.slice (some ⟨gM, 0, none⟩) n n) :: c11 :: (.slice (some ⟨gR, 0, none⟩) (n + 1) (n + 1)) :: c13 :: c14 :: c15 :: (.slice (some ⟨gF, 0, none⟩) p p) :: c17 :: c18 :: c19 :: c20 :: c21 :: (.slice (some ⟨gA, 0, none⟩) n n) :: (.slice (some ⟨gB, 0, none⟩) n n) :: (.slice (some ⟨gQ, 0, none⟩) n n) :: (.int .i64 (u : Int)) :: c26 :: (.int .i64 0) :: (.int .i64 1) :: c29 :: c30 :: c31 :: c32 :: c33 :: c34 :: c35 :: c36 :: c37 :: c38 :: c39 :: c40 :: c41 :: c42 :: c43 :: c44 :: c45 :: c46 :: c47 :: c48 :: c49 :: c50 :: c51 :: c52 :: c53 :: c54 :: c55 :: c56 :: c57 :: c58 :: c59 :: c60 :: c61 :: c62 :: c63 :: c64 :: c65 :: c66 :: c67 :: c68 :: c69 :: c70 :: c71 :: c72 :: c73 :: c74 :: c75 :: c76 :: c77 :: c78 :: c79 :: c80 :: c81 :: c82 :: c83 :: c84 :: c85 :: c86 :: c87 :: c88 :: c89 :: c90 :: c91 :: c92 :: c93 :: c94 :: c95 :: c96 :: c97 :: c98 :: c99 :: c100 :: c101 :: c102 :: c103 :: c104 :: c105 :: c106 :: c107 :: c108 :: c109 :: c110 :: c111 :: c112 :: c113 :: c114 :: c115 :: c116 :: c117 :: c118 :: c119 :: c120 :: c121 :: c122 :: c123 :: c124 :: c125 :: c126 :: c127 :: c128 :: c129 :: c130 :: c131 :: c132 :: c133 :: c134 :: c135 :: c136 :: c137 :: c138 :: c139 :: c140 :: c141 :: c142 :: c143 :: c144 :: c145 :: c146 :: c147 :: c148 :: c149 :: c150 :: c151 :: c152 :: c153 :: c154 :: c155 :: c156 :: c157 :: c158 :: c159 :: c160 :: c161 :: c162 :: c163 :: c164 :: c165 :: c166 :: c167 :: c168 :: c169 :: c170 :: c171 :: c172 :: c173 :: c174 :: c175 :: c176 :: c177 :: c178 :: c179 :: c180 :: c181 :: c182 :: c183 :: c184 :: c185 :: c186 :: c187 :: c188 :: c189 :: c190 :: c191 :: c192 :: c193 :: c194 :: c195 :: c196 :: c197 :: c198 :: c199 :: c200 :: c201 :: c202 :: c203 :: c204 :: c205 :: c206 :: c207 :: c208 :: c209 :: c210 :: c211 :: c212 :: c213 :: c214 :: c215 :: c216 :: c217 :: c218 :: c219 :: c220 :: c221 :: c222 :: c223 :: c224 :: c225 :: c226 :: c227 :: c228 :: c229 :: c230 :: c231 :: c232 :: c233 :: c234 :: c235 :: c236 :: c237 :: c238 :: c239 :: c240 :: c241 :: c242 :: c243 :: c244 :: c245 :: c246 :: c247 :: c248 :: c249 :: c250 :: c251 :: c252 :: c253 :: c254 :: c255 :: c256 :: c257 :: c258 :: c259 :: c260 :: c261 :: c262 :: c263 :: c264 :: c265 :: c266 :: c267 :: c268 :: c269 :: c270 :: c271 :: c272 :: c273 :: c274 :: c275 :: c276 :: c277 :: c278 :: c279 :: c280 :: c281 :: c282 :: c283 :: c284 :: c285 :: c286 :: c287 :: c288 :: c289 :: c290 :: c291 :: c292 :: c293 :: c294 :: c295 :: c296 :: c297 :: c298 :: c299 :: c300 :: c301 :: c302 :: c303 :: c304 :: c305 :: c306 :: c307 :: c308 :: c309 :: c310 :: c311 :: c312 :: c313 :: c314 :: c315 :: c316 :: c317 :: c318 :: c319 :: c320 :: c321 :: c322 :: c323 :: c324 :: c325 :: c326 :: c327 :: c328 :: c329 :: c330 :: c331 :: c332 :: c333 :: c334 :: c335 :: c336 :: c337 :: c338 :: c339 :: c340 :: c341 :: c342 :: c343 :: c344 :: c345 :: c346 :: c347 :: c348 :: c349 :: c350 :: [])), []⟩ wr0 := by
  conv => arg 2; arg 1; whnf
  go_loopg [27, 28, 29, 30, 31] n (fun k x y _ _ _ wr => ∃ (head tail : Nat) (mA : Nat → Bool) (q : Nat → Nat), x = .int .i64 (head : Int) ∧ y = .int .i64 (tail : Int) ∧ k = n - head ∧ Bfs g u mA q head tail none ∧ WS w4 wr n p gR gF gA gB gQ rs rf mA mB q)
  case atStart => exact ⟨0, 1, _, q0, rfl, rfl, rfl, bfs_start (by rw [G.gn]; exact hu) q0 hq0, h0⟩
  case round =>
    obtain ⟨head, tail, mA, q, rfl, rfl, hk, hbf, h⟩ := hrel
    have HK : Hid (gk = n - head) := hk
    have HE : Hid (∀ wr mA q, WS w4 wr n p gR gF gA gB gQ rs rf mA mB q → (∀ x, mA x = true ↔ Tj.Reach g u x) → ∀ d27 d28 d29 d30 d31 d230 d231 d232 d233 d234 d235 d236 d237 d238 d239 d240 d241 d242 d243 d244 d245 d246 d247 d248 d249 d250 d251 d252 d253 d254 d255 d256 d257 d258 d259 d260 d261 d262 d263 d264 d265 d266 d267 d268 d269 d270 d271 d272 d273 d274 d275 d276 d277 d278 d279 : Value, Q0 (.exit 16) ⟨(List.toArray ((.slice (some ⟨bs, os, none⟩) (n + 1) k0) :: (.slice a1 m k1) :: (.slice a2 m k2) :: (.int .u8 mask) :: c4 :: c5 :: c6 :: c7 :: c8 :: (.int .i64 (n : Int)) :: (.slice (some ⟨gM, 0, none⟩) n n) :: c11 :: (.slice (some ⟨gR, 0, none⟩) (n + 1) (n + 1)) :: c13 :: c14 :: c15 :: (.slice (some ⟨gF, 0, none⟩) p p) :: c17 :: c18 :: c19 :: c20 :: c21 :: (.slice (some ⟨gA, 0, none⟩) n n) :: (.slice (some ⟨gB, 0, none⟩) n n) :: (.slice (some ⟨gQ, 0, none⟩) n n) :: (.int .i64 (u : Int)) :: c26 :: d27 :: d28 :: d29 :: d30 :: d31 :: c32 :: c33 :: c34 :: c35 :: c36 :: c37 :: c38 :: c39 :: c40 :: c41 :: c42 :: c43 :: c44 :: c45 :: c46 :: c47 :: c48 :: c49 :: c50 :: c51 :: c52 :: c53 :: c54 :: c55 :: c56 :: c57 :: c58 :: c59 :: c60 :: c61 :: c62 :: c63 :: c64 :: c65 :: c66 :: c67 :: c68 :: c69 :: c70 :: c71 :: c72 :: c73 :: c74 :: c75 :: c76 :: c77 :: c78 :: c79 :: c80 :: c81 :: c82 :: c83 :: c84 :: c85 :: c86 :: c87 :: c88 :: c89 :: c90 :: c91 :: c92 :: c93 :: c94 :: c95 :: c96 :: c97 :: c98 :: c99 :: c100 :: c101 :: c102 :: c103 :: c104 :: c105 :: c106 :: c107 :: c108 :: c109 :: c110 :: c111 :: c112 :: c113 :: c114 :: c115 :: c116 :: c117 :: c118 :: c119 :: c120 :: c121 :: c122 :: c123 :: c124 :: c125 :: c126 :: c127 :: c128 :: c129 :: c130 :: c131 :: c132 :: c133 :: c134 :: c135 :: c136 :: c137 :: c138 :: c139 :: c140 :: c141 :: c142 :: c143 :: c144 :: c145 :: c146 :: c147 :: c148 :: c149 :: c150 :: c151 :: c152 :: c153 :: c154 :: c155 :: c156 :: c157 :: c158 :: c159 :: c160 :: c161 :: c162 :: c163 :: c164 :: c165 :: c166 :: c167 :: c168 :: c169 :: c170 :: c171 :: c172 :: c173 :: c174 :: c175 :: c176 :: c177 :: c178 :: c179 :: c180 :: c181 :: c182 :: c183 :: c184 :: c185 :: c186 :: c187 :: c188 :: c189 :: c190 :: c191 :: c192 :: c193 :: c194 :: c195 :: c196 :: c197 :: c198 :: c199 :: c200 :: c201 :: c202 :: c203 :: c204 :: c205 :: c206 :: c207 :: c208 :: c209 :: c210 :: c211 :: c212 :: c213 :: c214 :: c215 :: c216 :: c217 :: c218 :: c219 :: c220 :: c221 :: c222 :: c223 :: c224 :: c225 :: c226 :: c227 :: c228 :: c229 :: d230 :: d231 :: d232 :: d233 :: d234 :: d235 :: d236 :: d237 :: d238 :: d239 :: d240 :: d241 :: d242 :: d243 :: d244 :: d245 :: d246 :: d247 :: d248 :: d249 :: d250 :: d251 :: d252 :: d253 :: d254 :: d255 :: d256 :: d257 :: d258 :: d259 :: d260 :: d261 :: d262 :: d263 :: d264 :: d265 :: d266 :: d267 :: d268 :: d269 :: d270 :: d271 :: d272 :: d273 :: d274 :: d275 :: d276 :: d277 :: d278 :: d279 :: c280 :: c281 :: c282 :: c283 :: c284 :: c285 :: c286 :: c287 :: c288 :: c289 :: c290 :: c291 :: c292 :: c293 :: c294 :: c295 :: c296 :: c297 :: c298 :: c299 :: c300 :: c301 :: c302 :: c303 :: c304 :: c305 :: c306 :: c307 :: c308 :: c309 :: c310 :: c311 :: c312 :: c313 :: c314 :: c315 :: c316 :: c317 :: c318 :: c319 :: c320 :: c321 :: c322 :: c323 :: c324 :: c325 :: c326 :: c327 :: c328 :: c329 :: c330 :: c331 :: c332 :: c333 :: c334 :: c335 :: c336 :: c337 :: c338 :: c339 :: c340 :: c341 :: c342 :: c343 :: c344 :: c345 :: c346 :: c347 :: c348 :: c349 :: c350 :: [])), []⟩ wr) := hexit
    have hnn := G.n_le
    have hmm := G.m_le
    have htl : tail ≤ n := by rw [← G.gn]; exact hbf.tail_le
    clear hk h0 hexit hq0
    by_cases hlt : head < tail
    · have hb2 := hbf.next hlt
      have hvn : q head < n := by rw [← G.gn]; exact hbf.q_lt hlt
      obtain ⟨v, hv⟩ : ∃ v, v = q head := ⟨_, rfl⟩
      have HV0 : Hid (v = q head) := hv
      have cq : wr.cell? ⟨gQ, head, none⟩ = some (.int .i64 (v : Int)) := by rw [hv]; exact h.rQ.cell (i := head) (by omega)
      rw [← hv] at hb2 hvn
      have cu := G.startAt h.below (i := v) (by omega)
      have hs1 := G.mono hvn
      have hs2 := G.st_le (i := v + 1) (by omega)
      obtain ⟨lo, hlo⟩ : ∃ x, x = g.st v := ⟨_, rfl⟩
      obtain ⟨hi, hhi⟩ : ∃ x, x = g.st (v + 1) := ⟨_, rfl⟩
      have HLO : Hid (lo = g.st v) := hlo
      have HHI : Hid (hi = g.st (v + 1)) := hhi
      rw [← hlo] at cu hs1 hb2
      rw [← hhi] at hs1 hs2
      clear hlo hhi hbf hv
      go_wp2_with fail
      go_loopg [28, 30, 31] (hi - lo) (fun k y x _ wr => ∃ (e tail : Nat) (mA : Nat → Bool) (q : Nat → Nat), lo ≤ e ∧ e ≤ hi ∧ x = .int .i64 (e : Int) ∧ y = .int .i64 (tail : Int) ∧ k = hi - e ∧ Bfs g u mA q (head + 1) tail (some e) ∧ q head = v ∧ WS w4 wr n p gR gF gA gB gQ rs rf mA mB q)
      case atStart => exact ⟨lo, tail, mA, q, Nat.le_refl _, hs1, rfl, rfl, rfl, hb2, HV0.out.symm, h⟩
      case round =>
        clear h hb2 htl hlt cq cu HV0
        obtain ⟨e, tail, mA, q, he1, he2, rfl, rfl, hk2, hbf, hqv, h⟩ := hrel
        have HK2 : Hid (gk = hi - e) := hk2
        have HQV : Hid (q head = v) := hqv
        have htl : tail ≤ n := by rw [← G.gn]; exact hbf.tail_le
        have hht : head + 1 ≤ tail := hbf.le
        clear hk2 hqv
        have cu1 := G.startAt h.below (i := v + 1) (by omega)
        rw [← HHI.out] at cu1
        by_cases hle : e < hi
        · obtain ⟨bt, ot, rfl, hbt, hto⟩ := G.tgts (by omega)
          obtain ⟨bk, ok', rfl, hbk, hkd⟩ := G.kinds (by omega)
          obtain ⟨x, kc0, hok⟩ := hkd e (by omega)
          have kc := (h.below.cell (p := ⟨bk, ok' + e, none⟩) hbk).trans kc0
          have tc := (h.below.cell (p := ⟨bt, ot + e, none⟩) hbt).trans (hto e (by omega))
          obtain ⟨t, ht⟩ : ∃ t, t = g.to e := ⟨_, rfl⟩
          have htn : t < n := by rw [ht]; exact G.to_lt (by omega)
          rw [← ht] at tc
          have HT : Hid (t = g.to e) := ht
          have HOK : Hid (g.ok e = !(bits .and .u8 x mask == 0)) := hok
          clear ht hto hkd hok kc0
          cases tb : (bits .and .u8 x mask == 0) with
          | true =>
            have OK : g.ok e = false := by rw [HOK.out, tb]; rfl
            have hb2 := hbf.pass (fun ho => by rw [OK] at ho; cases ho)
            clear OK hbf
            go_wp2_with fail
            go_roundg (hi - (e + 1))
            case measure => rw [HK2.out]; omega
            case rel => exact ⟨e + 1, tail, mA, q, by omega, by omega, by go_num, rfl, rfl, hb2, HQV.out, h⟩
          | false =>
            have OK : g.ok e = true := by rw [HOK.out, tb]; rfl
            have ca : wr.cell? ⟨gA, t, none⟩ = some (.bool (mA t)) := h.rA.cell htn
            cases em : mA t with
            | true =>
              have hb2 := hbf.pass (fun _ => by rw [← HT.out]; exact em)
              rw [em] at ca
              clear OK hbf em
              go_wp2_with fail
              go_roundg (hi - (e + 1))
              case measure => rw [HK2.out]; omega
              case rel => exact ⟨e + 1, tail, mA, q, by omega, by omega, by go_num, rfl, rfl, hb2, HQV.out, h⟩
            | false =>
              have htl2 : tail < n := by rw [← G.gn]; exact hbf.tail_lt (by rw [G.gn]; exact htn) em
              have hb2 : Bfs g u (upd mA t true) (upd q tail t) (head + 1) (tail + 1) (some (e + 1)) := by
                have := hbf.push (by rw [HQV.out, ← HLO.out]; exact he1) (by rw [HQV.out, ← HHI.out]; exact hle) OK (by rw [← HT.out, G.gn]; exact htn) (by rw [← HT.out]; exact em)
                rw [← HT.out] at this
                exact this
              have hq2 : Hid (upd q tail t head = v) := by show upd q tail t head = v; rw [upd_ne _ _ (by omega)]; exact HQV.out
              rw [em] at ca
              have fa := h.rA.free t
              clear OK hbf em
              go_upto_region 67 with fail
              have h2 := h.setA t true
              clear h ca fa kc tc cu1
              generalize wr.setCell ⟨gA, t, none⟩ (.bool true) = w7 at h2 ⊢
              have cq : w7.cell? ⟨gQ, tail, none⟩ = some (.int .i64 (q tail : Int)) := h2.rQ.cell htl2
              have fq := h2.rQ.free tail
              have h3 := h2.setQ tail t
              clear h2
              go_wp2_with fail
              go_roundg (hi - (e + 1))
              case measure => rw [HK2.out]; omega
              case rel => exact ⟨e + 1, tail + 1, _, _, by omega, by omega, by go_num, by go_num, rfl, hb2, hq2.out, h3⟩
        · have hb2 := hbf.done (by rw [HQV.out, ← HHI.out]; omega)
          clear hbf
          go_wp2_with fail
          go_roundg (n - (head + 1))
          case measure => rw [HK.out]; omega
          case rel => exact ⟨head + 1, tail, mA, q, by go_num, rfl, rfl, hb2, h⟩
    · have hfin := hbf.final (by omega)
      clear hbf
      go_wp2_with fail
      exact HE.out _ mA q h hfin _ _ _ _ _ _ _ _ _ _ _ _ _ _ _ _ _ _ _ _ _ _ _ _ _ _ _ _ _ _ _ _ _ _ _ _ _ _ _ _ _ _ _ _ _ _ _ _ _ _ _ _ _ _ _
end Go.Proofs.Qxb6001346a
