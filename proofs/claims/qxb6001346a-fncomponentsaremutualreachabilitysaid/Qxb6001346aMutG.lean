/-
  A loop of the law 'components are mutual reachability'.
-/
import Derived.Test.Qxb6001346aMut0
set_option linter.all false
namespace Go.Proofs.Qxb6001346a
open Go.RowKit Tj

theorem rf_lt {g : Gr} {m n v k : Nat} {rf : Nat → Nat} (hld : Laid g m m rf) (gn : g.n = n) (h1 : Tj.pre g m v ≤ k) (h2 : k < Tj.pre g m (v + 1)) : rf k < n := by
  obtain ⟨u, hu, e⟩ := hld.only v k h1 (by rw [← pre_succ]; exact h2)
  rw [e, ← gn]
  exact hu.1

set_option maxRecDepth 1000000 in
set_option maxHeartbeats 8000000 in
theorem mutG {w4 wr0 : World} {g : Gr} {n m bs os gM gR gF gA gB gQ p : Nat} {a1 a2 : Option Addr} {mask : Int} {k0 k1 k2 : Nat} (G : MG w4 g n m bs os a1 a2 mask) {u : Nat} (hu : u < n) {c4 c5 c6 c7 c8 c11 c13 c14 c15 c17 c18 c19 c20 c21 c26 c29 c30 c31 c32 c33 c34 c35 c36 c37 c38 c39 c40 c41 c42 c43 c44 c45 c46 c47 c48 c49 c50 c51 c52 c53 c54 c55 c56 c57 c58 c59 c60 c61 c62 c63 c64 c65 c66 c67 c68 c69 c70 c71 c72 c73 c74 c75 c76 c77 c78 c79 c80 c81 c82 c83 c84 c85 c86 c87 c88 c89 c90 c91 c92 c93 c94 c95 c96 c97 c98 c99 c100 c101 c102 c103 c104 c105 c106 c107 c108 c109 c110 c111 c112 c113 c114 c115 c116 c117 c118 c119 c120 c121 c122 c123 c124 c125 c126 c127 c128 c129 c130 c131 c132 c133 c134 c135 c136 c137 c138 c139 c140 c141 c142 c143 c144 c145 c146 c147 c148 c149 c150 c151 c152 c153 c154 c155 c156 c157 c158 c159 c160 c161 c162 c163 c164 c165 c166 c167 c168 c169 c170 c171 c172 c173 c174 c175 c176 c177 c178 c179 c180 c181 c182 c183 c184 c185 c186 c187 c188 c189 c190 c191 c192 c193 c194 c195 c196 c197 c198 c199 c200 c201 c202 c203 c204 c205 c206 c207 c208 c209 c210 c211 c212 c213 c214 c215 c216 c217 c218 c219 c220 c221 c222 c223 c224 c225 c226 c227 c228 c229 c230 c231 c232 c233 c234 c235 c236 c237 c238 c239 c240 c241 c242 c243 c244 c245 c246 c247 c248 c249 c250 c251 c252 c253 c254 c255 c256 c257 c258 c259 c260 c261 c262 c263 c264 c265 c266 c267 c268 c269 c270 c271 c272 c273 c274 c275 c276 c277 c278 c279 c280 c281 c282 c283 c284 c285 c286 c287 c288 c289 c290 c291 c292 c293 c294 c295 c296 c297 c298 c299 c300 c301 c302 c303 c304 c305 c306 c307 c308 c309 c310 c311 c312 c313 c314 c315 c316 c317 c318 c319 c320 c321 c322 c323 c324 c325 c326 c327 c328 c329 c330 c331 c332 c333 c334 c335 c336 c337 c338 c339 c340 c341 c342 c343 c344 c345 c346 c347 c348 c349 c350 : Value} (Q0 : Exit → Act → World → Prop) (rf : Nat → Nat) (hp : p = Tj.pre g m n) (hld : Laid g m m rf) (mA : Nat → Bool)
    (hexit : ∀ wr mB q, WS w4 wr n p gR gF gA gB gQ (Tj.pre g m) rf mA mB q → (∀ x, mB x = true ↔ Tj.Reach (rev g m rf) u x) → ∀ d27 d28 d32 d33 d34 d286 d287 d288 d289 d290 d291 d292 d293 d294 d295 d296 d297 d298 d299 d300 d301 d302 d303 d304 d305 d306 d307 d308 d309 d310 d311 d312 d313 d314 d315 d316 d317 d318 d319 d320 d321 d322 d323 d324 d325 : Value, Q0 (.exit 20) ⟨(List.toArray ((.slice (some ⟨bs, os, none⟩) (n + 1) k0) :: (.slice a1 m k1) :: (.slice a2 m k2) :: (.int .u8 mask) :: c4 :: c5 :: c6 :: c7 :: c8 :: (.int .i64 (n : Int)) :: (.slice (some ⟨gM, 0, none⟩) n n) :: c11 :: (.slice (some ⟨gR, 0, none⟩) (n + 1) (n + 1)) :: c13 :: c14 :: c15 :: (.slice (some ⟨gF, 0, none⟩) p p) :: c17 :: c18 :: c19 :: c20 :: c21 :: (.slice (some ⟨gA, 0, none⟩) n n) :: (.slice (some ⟨gB, 0, none⟩) n n) :: (.slice (some ⟨gQ, 0, none⟩) n n) :: (.int .i64 (u : Int)) :: c26 :: d27 :: d28 :: c29 :: c30 :: c31 :: d32 :: d33 :: d34 :: c35 :: c36 :: c37 :: c38 :: c39 :: c40 :: c41 :: c42 :: c43 :: c44 :: c45 :: c46 :: c47 :: c48 :: c49 :: c50 :: c51 :: c52 :: c53 :: c54 :: c55 :: c56 :: c57 :: c58 :: c59 :: c60 :: c61 :: c62 :: c63 :: c64 :: c65 :: c66 :: c67 :: c68 :: c69 :: c70 :: c71 :: c72 :: c73 :: c74 :: c75 :: c76 :: c77 :: c78 :: c79 :: c80 :: c81 :: c82 :: c83 :: c84 :: c85 :: c86 :: c87 :: c88 :: c89 :: c90 :: c91 :: c92 :: c93 :: c94 :: c95 :: c96 :: c97 :: c98 :: c99 :: c100 :: c101 :: c102 :: c103 :: c104 :: c105 :: c106 :: c107 :: c108 :: c109 :: c110 :: c111 :: c112 :: c113 :: c114 :: c115 :: c116 :: c117 :: c118 :: c119 :: c120 :: c121 :: c122 :: c123 :: c124 :: c125 :: c126 :: c127 :: c128 :: c129 :: c130 :: c131 :: c132 :: c133 :: c134 :: c135 :: c136 :: c137 :: c138 :: c139 :: c140 :: c141 :: c142 :: c143 :: c144 :: c145 :: c146 :: c147 :: c148 :: c149 :: c150 :: c151 :: c152 :: c153 :: c154 :: c155 :: c156 :: c157 :: c158 :: c159 :: c160 :: c161 :: c162 :: c163 :: c164 :: c165 :: c166 :: c167 :: c168 :: c169 :: c170 :: c171 :: c172 :: c173 :: c174 :: c175 :: c176 :: c177 :: c178 :: c179 :: c180 :: c181 :: c182 :: c183 :: c184 :: c185 :: c186 :: c187 :: c188 :: c189 :: c190 :: c191 :: c192 :: c193 :: c194 :: c195 :: c196 :: c197 :: c198 :: c199 :: c200 :: c201 :: c202 :: c203 :: c204 :: c205 :: c206 :: c207 :: c208 :: c209 :: c210 :: c211 :: c212 :: c213 :: c214 :: c215 :: c216 :: c217 :: c218 :: c219 :: c220 :: c221 :: c222 :: c223 :: c224 :: c225 :: c226 :: c227 :: c228 :: c229 :: c230 :: c231 :: c232 :: c233 :: c234 :: c235 :: c236 :: c237 :: c238 :: c239 :: c240 :: c241 :: c242 :: c243 :: c244 :: c245 :: c246 :: c247 :: c248 :: c249 :: c250 :: c251 :: c252 :: c253 :: c254 :: c255 :: c256 :: c257 :: c258 :: c259 :: c260 :: c261 :: c262 :: c263 :: c264 :: c265 :: c266 :: c267 :: c268 :: c269 :: c270 :: c271 :: c272 :: c273 :: c274 :: c275 :: c276 :: c277 :: c278 :: c279 :: c280 :: c281 :: c282 :: c283 :: c284 :: c285 :: d286 :: d287 :: d288 :: d289 :: d290 :: d291 :: d292 :: d293 :: d294 :: d295 :: d296 :: d297 :: d298 :: d299 :: d300 :: d301 :: d302 :: d303 :: d304 :: d305 :: d306 :: d307 :: d308 :: d309 :: d310 :: d311 :: d312 :: d313 :: d314 :: d315 :: d316 :: d317 :: d318 :: d319 :: d320 :: d321 :: d322 :: d323 :: d324 :: d325 :: c326 :: c327 :: c328 :: c329 :: c330 :: c331 :: c332 :: c333 :: c334 :: c335 :: c336 :: c337 :: c338 :: c339 :: c340 :: c341 :: c342 :: c343 :: c344 :: c345 :: c346 :: c347 :: c348 :: c349 :: c350 :: [])), []⟩ wr)
    (q0 : Nat → Nat) (hq0 : q0 0 = u) (h0 : WS w4 wr0 n p gR gF gA gB gQ (Tj.pre g m) rf mA (fun x => x == u) q0) :
    Code.wp Try.prog (Code.loop ((Try.f3.body.bind (loopIn 20)).getD .skip)) Q0 ⟨(List.toArray ((.slice (some ⟨bs, os, none⟩) (n + 1) k0) :: (.slice a1 m k1) :: (.slice a2 m k2) :: (.int .u8 mask) :: c4 :: c5 :: c6 :: c7 :: c8 :: (.int .i64 (n : Int)) :: (.slice (some ⟨gM, 0, none⟩) n n) :: c11 :: (.slice (some ⟨gR, 0, none⟩) (n + 1) (n + 1)) :: c13 :: c14 :: c15 :: (.slice (some ⟨gF, 0, none⟩) p p) :: c17 :: c18 :: c19 :: c20 :: c21 :: (.slice (some ⟨gA, 0, none⟩) n n) :: (.slice (some ⟨gB, 0, none⟩) n n) :: (.slice (some ⟨gQ, 0, none⟩) n n) :: (.int .i64 (u : Int)) :: c26 :: (.int .i64 0) :: (.int .i64 1) :: c29 :: c30 :: c31 :: c32 :: c33 :: c34 :: c35 :: c36 :: c37 :: c38 :: c39 :: c40 :: c41 :: c42 :: c43 :: c44 :: c45 :: c46 :: c47 :: c48 :: c49 :: c50 :: c51 :: c52 :: c53 :: c54 :: c55 :: c56 :: c57 :: c58 :: c59 :: c60 :: c61 :: c62 :: c63 :: c64 :: c65 :: c66 :: c67 :: c68 :: c69 :: c70 :: c71 :: c72 :: c73 :: c74 :: c75 :: c76 :: c77 :: c78 :: c79 :: c80 :: c81 :: c82 :: c83 :: c84 :: c85 :: c86 :: c87 :: c88 :: c89 :: c90 :: c91 :: c92 :: c93 :: c94 :: c95 :: c96 :: c97 :: c98 :: c99 :: c100 :: c101 :: c102 :: c103 :: c104 :: c105 :: c106 :: c107 :: c108 :: c109 :: c110 :: c111 :: c112 :: c113 :: c114 :: c115 :: c116 :: c117 :: c118 :: c119 :: c120 :: c121 :: c122 :: c123 :: c124 :: c125 :: c126 :: c127 :: c128 :: c129 :: c130 :: c131 :: c132 :: c133 :: c134 :: c135 :: c136 :: c137 :: c138 :: c139 :: c140 :: c141 :: c142 :: c143 :: c144 :: c145 :: c146 :: c147 :: c148 :: c149 :: c150 :: c151 :: c152 :: c153 :: c154 :: c155 :: c156 :: c157 :: c158 :: c159 :: c160 :: c161 :: c162 :: c163 :: c164 :: c165 :: c166 :: c167 :: c168 :: c169 :: c170 :: c171 :: c172 :: c173 :: c174 :: c175 :: c176 :: c177 :: c178 :: c179 :: c180 :: c181 :: c182 :: c183 :: c184 :: c185 :: c186 :: c187 :: c188 :: c189 :: c190 :: c191 :: c192 :: c193 :: c194 :: c195 :: c196 :: c197 :: c198 :: c199 :: c200 :: c201 :: c202 :: c203 :: c204 :: c205 :: c206 :: c207 :: c208 :: c209 :: c210 :: c211 :: c212 :: c213 :: c214 :: c215 :: c216 :: c217 :: c218 :: c219 :: c220 :: c221 :: c222 :: c223 :: c224 :: c225 :: c226 :: c227 :: c228 :: c229 :: c230 :: c231 :: c232 :: c233 :: c234 :: c235 :: c236 :: c237 :: c238 :: c239 :: c240 :: c241 :: c242 :: c243 :: c244 :: c245 :: c246 :: c247 :: c248 :: c249 :: c250 :: c251 :: c252 :: c253 :: c254 :: c255 :: c256 :: c257 :: c258 :: c259 :: c260 :: c261 :: c262 :: c263 :: c264 :: c265 :: c266 :: c267 :: c268 :: c269 :: c270 :: c271 :: c272 :: c273 :: c274 :: c275 :: c276 :: c277 :: c278 :: c279 :: c280 :: c281 :: c282 :: c283 :: c284 :: c285 :: c286 :: c287 :: c288 :: c289 :: c290 :: c291 :: c292 :: c293 :: c294 :: c295 :: c296 :: c297 :: c298 :: c299 :: c300 :: c301 :: c302 :: c303 :: c304 :: c305 :: c306 :: c307 :: c308 :: c309 :: c310 :: c311 :: c312 :: c313 :: c314 :: c315 :: c316 :: c317 :: c318 :: c319 :: c320 :: c321 :: c322 :: c323 :: c324 :: c325 :: c326 :: c327 :: c328 :: c329 :: c330 :: c331 :: c332 :: c333 :: c334 :: c335 :: c336 :: c337 :: c338 :: c339 :: c340 :: c341 :: c342 :: c343 :: c344 :: c345 :: c346 :: c347 :: c348 :: c349 :: c350 :: [])), []⟩ wr0 := by
  have gn' : (rev g m rf).n = n := G.gn
  conv => arg 2; arg 1; whnf
  go_loopg [27, 28, 32, 33, 34] n (fun k x y _ _ _ wr => ∃ (head tail : Nat) (mB : Nat → Bool) (q : Nat → Nat), x = .int .i64 (head : Int) ∧ y = .int .i64 (tail : Int) ∧ k = n - head ∧ Bfs (rev g m rf) u mB q head tail none ∧ WS w4 wr n p gR gF gA gB gQ (Tj.pre g m) rf mA mB q)
  case atStart => exact ⟨0, 1, _, q0, rfl, rfl, rfl, bfs_start (by rw [gn']; exact hu) q0 hq0, h0⟩
  case round =>
    obtain ⟨head, tail, mB, q, rfl, rfl, hk, hbf, h⟩ := hrel
    have HK : Hid (gk = n - head) := hk
    have HP : Hid (p = Tj.pre g m n) := hp
    have GN : Hid ((rev g m rf).n = n) := gn'
    have HE : Hid (∀ wr mB q, WS w4 wr n p gR gF gA gB gQ (Tj.pre g m) rf mA mB q → (∀ x, mB x = true ↔ Tj.Reach (rev g m rf) u x) → ∀ d27 d28 d32 d33 d34 d286 d287 d288 d289 d290 d291 d292 d293 d294 d295 d296 d297 d298 d299 d300 d301 d302 d303 d304 d305 d306 d307 d308 d309 d310 d311 d312 d313 d314 d315 d316 d317 d318 d319 d320 d321 d322 d323 d324 d325 : Value, Q0 (.exit 20) ⟨(List.toArray ((.slice (some ⟨bs, os, none⟩) (n + 1) k0) :: (.slice a1 m k1) :: (.slice a2 m k2) :: (.int .u8 mask) :: c4 :: c5 :: c6 :: c7 :: c8 :: (.int .i64 (n : Int)) :: (.slice (some ⟨gM, 0, none⟩) n n) :: c11 :: (.slice (some ⟨gR, 0, none⟩) (n + 1) (n + 1)) :: c13 :: c14 :: c15 :: (.slice (some ⟨gF, 0, none⟩) p p) :: c17 :: c18 :: c19 :: c20 :: c21 :: (.slice (some ⟨gA, 0, none⟩) n n) :: (.slice (some ⟨gB, 0, none⟩) n n) :: (.slice (some ⟨gQ, 0, none⟩) n n) :: (.int .i64 (u : Int)) :: c26 :: d27 :: d28 :: c29 :: c30 :: c31 :: d32 :: d33 :: d34 :: c35 :: c36 :: c37 :: c38 :: c39 :: c40 :: c41 :: c42 :: c43 :: c44 :: c45 :: c46 :: c47 :: c48 :: c49 :: c50 :: c51 :: c52 :: c53 :: c54 :: c55 :: c56 :: c57 :: c58 :: c59 :: c60 :: c61 :: c62 :: c63 :: c64 :: c65 :: c66 :: c67 :: c68 :: c69 :: c70 :: c71 :: c72 :: c73 :: c74 :: c75 :: c76 :: c77 :: c78 :: c79 :: c80 :: c81 :: c82 :: c83 :: c84 :: c85 :: c86 :: c87 :: c88 :: c89 :: c90 :: c91 :: c92 :: c93 :: c94 :: c95 :: c96 :: c97 :: c98 :: c99 :: c100 :: c101 :: c102 :: c103 :: c104 :: c105 :: c106 :: c107 :: c108 :: c109 :: c110 :: c111 :: c112 :: c113 :: c114 :: c115 :: c116 :: c117 :: c118 :: c119 :: c120 :: c121 :: c122 :: c123 :: c124 :: c125 :: c126 :: c127 :: c128 :: c129 :: c130 :: c131 :: c132 :: c133 :: c134 :: c135 :: c136 :: c137 :: c138 :: c139 :: c140 :: c141 :: c142 :: c143 :: c144 :: c145 :: c146 :: c147 :: c148 :: c149 :: c150 :: c151 :: c152 :: c153 :: c154 :: c155 :: c156 :: c157 :: c158 :: c159 :: c160 :: c161 :: c162 :: c163 :: c164 :: c165 :: c166 :: c167 :: c168 :: c169 :: c170 :: c171 :: c172 :: c173 :: c174 :: c175 :: c176 :: c177 :: c178 :: c179 :: c180 :: c181 :: c182 :: c183 :: c184 :: c185 :: c186 :: c187 :: c188 :: c189 :: c190 :: c191 :: c192 :: c193 :: c194 :: c195 :: c196 :: c197 :: c198 :: c199 :: c200 :: c201 :: c202 :: c203 :: c204 :: c205 :: c206 :: c207 :: c208 :: c209 :: c210 :: c211 :: c212 :: c213 :: c214 :: c215 :: c216 :: c217 :: c218 :: c219 :: c220 :: c221 :: c222 :: c223 :: c224 :: c225 :: c226 :: c227 :: c228 :: c229 :: c230 :: c231 :: c232 :: c233 :: c234 :: c235 :: c236 :: c237 :: c238 :: c239 :: c240 :: c241 :: c242 :: c243 :: c244 :: c245 :: c246 :: c247 :: c248 :: c249 :: c250 :: c251 :: c252 :: c253 :: c254 :: c255 :: c256 :: c257 :: c258 :: c259 :: c260 :: c261 :: c262 :: c263 :: c264 :: c265 :: c266 :: c267 :: c268 :: c269 :: c270 :: c271 :: c272 :: c273 :: c274 :: c275 :: c276 :: c277 :: c278 :: c279 :: c280 :: c281 :: c282 :: c283 :: c284 :: c285 :: d286 :: d287 :: d288 :: d289 :: d290 :: d291 :: d292 :: d293 :: d294 :: d295 :: d296 :: d297 :: d298 :: d299 :: d300 :: d301 :: d302 :: d303 :: d304 :: d305 :: d306 :: d307 :: d308 :: d309 :: d310 :: d311 :: d312 :: d313 :: d314 :: d315 :: d316 :: d317 :: d318 :: d319 :: d320 :: d321 :: d322 :: d323 :: d324 :: d325 :: c326 :: c327 :: c328 :: c329 :: c330 :: c331 :: c332 :: c333 :: c334 :: c335 :: c336 :: c337 :: c338 :: c339 :: c340 :: c341 :: c342 :: c343 :: c344 :: c345 :: c346 :: c347 :: c348 :: c349 :: c350 :: [])), []⟩ wr) := hexit
    have hnn := G.n_le
    have hmm := G.m_le
    have hpm : p ≤ 4096 := by rw [hp]; have := pre_le_m g m n; omega
    have htl : tail ≤ n := by rw [← gn']; exact hbf.tail_le
    clear hk h0 hexit hq0 hp gn'
    by_cases hlt : head < tail
    · have hb2 := hbf.next hlt
      have hvn : q head < n := by rw [← GN.out]; exact hbf.q_lt hlt
      obtain ⟨v, hv⟩ : ∃ v, v = q head := ⟨_, rfl⟩
      have HV0 : Hid (v = q head) := hv
      have cq : wr.cell? ⟨gQ, head, none⟩ = some (.int .i64 (v : Int)) := by rw [hv]; exact h.rQ.cell (i := head) (by omega)
      rw [← hv] at hb2 hvn
      have cu : wr.cell? ⟨gR, v, none⟩ = some (.int .i64 ((Tj.pre g m v : Nat) : Int)) := h.rR.cell (i := v) (by omega)
      have hs1 : Tj.pre g m v ≤ Tj.pre g m (v + 1) := pre_le g m (by omega)
      have hs2 : Tj.pre g m (v + 1) ≤ p := by rw [HP.out]; exact pre_le g m (by omega)
      obtain ⟨lo, hlo⟩ : ∃ x, x = Tj.pre g m v := ⟨_, rfl⟩
      obtain ⟨hi, hhi⟩ : ∃ x, x = Tj.pre g m (v + 1) := ⟨_, rfl⟩
      have HLO : Hid (lo = Tj.pre g m v) := hlo
      have HHI : Hid (hi = Tj.pre g m (v + 1)) := hhi
      have hb3 : Bfs (rev g m rf) u mB q (head + 1) tail (some lo) := by rw [hlo]; exact hb2
      rw [← hlo] at cu hs1
      rw [← hhi] at hs1 hs2
      clear hlo hhi hbf hv hb2
      go_wp2_with fail
      go_loopg [28, 33, 34] (hi - lo) (fun k y x _ wr => ∃ (e tail : Nat) (mB : Nat → Bool) (q : Nat → Nat), lo ≤ e ∧ e ≤ hi ∧ x = .int .i64 (e : Int) ∧ y = .int .i64 (tail : Int) ∧ k = hi - e ∧ Bfs (rev g m rf) u mB q (head + 1) tail (some e) ∧ q head = v ∧ WS w4 wr n p gR gF gA gB gQ (Tj.pre g m) rf mA mB q)
      case atStart => exact ⟨lo, tail, mB, q, Nat.le_refl _, hs1, rfl, rfl, rfl, hb3, HV0.out.symm, h⟩
      case round =>
        clear h hb3 htl hlt cq cu HV0
        obtain ⟨e, tail, mB, q, he1, he2, rfl, rfl, hk2, hbf, hqv, h⟩ := hrel
        have HK2 : Hid (gk = hi - e) := hk2
        have HQV : Hid (q head = v) := hqv
        have htl : tail ≤ n := by rw [← GN.out]; exact hbf.tail_le
        have hht : head + 1 ≤ tail := hbf.le
        clear hk2 hqv
        have cu1 : wr.cell? ⟨gR, v + 1, none⟩ = some (.int .i64 (hi : Int)) := by rw [HHI.out]; exact h.rR.cell (i := v + 1) (by omega)
        by_cases hle : e < hi
        · have tc0 : wr.cell? ⟨gF, e, none⟩ = some (.int .i64 (rf e : Int)) := h.rF.cell (i := e) (by omega)
          have htn0 : rf e < n := rf_lt hld G.gn (by rw [← HLO.out]; exact he1) (by rw [← HHI.out]; exact hle)
          obtain ⟨t, ht⟩ : ∃ t, t = rf e := ⟨_, rfl⟩
          rw [← ht] at tc0 htn0
          have HT : Hid (t = (rev g m rf).to e) := ht
          have OK : Hid ((rev g m rf).ok e = true) := rfl
          clear ht
          have ca : wr.cell? ⟨gB, t, none⟩ = some (.bool (mB t)) := h.rB.cell htn0
          cases em : mB t with
          | true =>
            have hb2 := hbf.pass (fun _ => by rw [← HT.out]; exact em)
            rw [em] at ca
            clear hbf em
            go_wp2_with fail
            go_roundg (hi - (e + 1))
            case measure => rw [HK2.out]; omega
            case rel => exact ⟨e + 1, tail, mB, q, by omega, by omega, by go_num, rfl, rfl, hb2, HQV.out, h⟩
          | false =>
            have htl2 : tail < n := by rw [← GN.out]; exact hbf.tail_lt (by rw [GN.out]; exact htn0) em
            have hb2 : Bfs (rev g m rf) u (upd mB t true) (upd q tail t) (head + 1) (tail + 1) (some (e + 1)) := by
              have := hbf.push (by rw [HQV.out]; show Tj.pre g m v ≤ e; rw [← HLO.out]; exact he1) (by rw [HQV.out]; show e < Tj.pre g m (v + 1); rw [← HHI.out]; exact hle) OK.out (by rw [← HT.out, GN.out]; exact htn0) (by rw [← HT.out]; exact em)
              rw [← HT.out] at this
              exact this
            have hq2 : Hid (upd q tail t head = v) := by show upd q tail t head = v; rw [upd_ne _ _ (by omega)]; exact HQV.out
            rw [em] at ca
            have fa := h.rB.free t
            clear hbf em
            go_upto_region 81 with fail
            have h2 := h.setB t true
            clear h ca fa tc0 cu1
            generalize wr.setCell ⟨gB, t, none⟩ (.bool true) = w7 at h2 ⊢
            have cq : w7.cell? ⟨gQ, tail, none⟩ = some (.int .i64 (q tail : Int)) := h2.rQ.cell htl2
            have fq := h2.rQ.free tail
            have h3 := h2.setQ tail t
            clear h2
            go_wp2_with fail
            go_roundg (hi - (e + 1))
            case measure => rw [HK2.out]; omega
            case rel => exact ⟨e + 1, tail + 1, _, _, by omega, by omega, by go_num, by go_num, rfl, hb2, hq2.out, h3⟩
        · have hb2 := hbf.done (by rw [HQV.out]; show Tj.pre g m (v + 1) ≤ e; rw [← HHI.out]; omega)
          clear hbf
          go_wp2_with fail
          go_roundg (n - (head + 1))
          case measure => rw [HK.out]; omega
          case rel => exact ⟨head + 1, tail, mB, q, by go_num, rfl, rfl, hb2, h⟩
    · have hfin := hbf.final (by omega)
      clear hbf
      go_wp2_with fail
      exact HE.out _ mB q h hfin _ _ _ _ _ _ _ _ _ _ _ _ _ _ _ _ _ _ _ _ _ _ _ _ _ _ _ _ _ _ _ _ _ _ _ _ _ _ _ _ _ _ _ _ _
end Go.Proofs.Qxb6001346a
