/-
  A loop of the law 'components are mutual reachability'.
-/
import Derived.Test.Qxb6001346aMut0
set_option linter.all false
namespace Go.Proofs.Qxb6001346a
open Go.RowKit Tj

/-- Where the next source of v goes. -/
def fillAt (g : Gr) (m k v : Nat) : Nat := Tj.pre g m v + cin g v k
theorem fillAt_zero (g : Gr) (m v : Nat) : fillAt g m 0 v = Tj.pre g m v := by simp [fillAt, cin, cntTo]
theorem fillAt_miss {g : Gr} {m k : Nat} (ho : g.ok k = false) (v : Nat) : fillAt g m (k + 1) v = fillAt g m k v := by unfold fillAt; rw [cin_miss ho]
theorem fillAt_hit {g : Gr} {m k : Nat} (ho : g.ok k = true) (v : Nat) : fillAt g m (k + 1) v = upd (fillAt g m k) (g.to k) (fillAt g m k (g.to k) + 1) v := by
  by_cases e : v = g.to k
  · subst e; rw [upd_same]; unfold fillAt; rw [cin_hit ho]; omega
  · rw [upd_ne _ _ e]; unfold fillAt; rw [cin_other ho e]

set_option maxRecDepth 1000000 in
set_option maxHeartbeats 8000000 in
theorem mutD {w4 wr0 : World} {g : Gr} {n m bs os gM gR : Nat} {a1 a2 : Option Addr} {mask : Int} {k0 k1 k2 : Nat} (G : MG w4 g n m bs os a1 a2 mask) {gL p gF : Nat} (o1 : w4.heap.size ≤ gR) (o2 : gR < gF) (o3 : gF < gL) (hp : p = Tj.pre g m n) {c4 c5 c6 c7 c8 c11 c13 c14 c15 c18 c20 c21 c22 c23 c24 c25 c26 c27 c28 c29 c30 c31 c32 c33 c34 c35 c36 c37 c38 c39 c40 c41 c42 c43 c44 c45 c46 c47 c48 c49 c50 c51 c52 c53 c54 c55 c56 c57 c58 c59 c60 c61 c62 c63 c64 c65 c66 c67 c68 c69 c70 c71 c72 c73 c74 c75 c76 c77 c78 c79 c80 c81 c82 c83 c84 c85 c86 c87 c88 c89 c90 c91 c92 c93 c94 c95 c96 c97 c98 c99 c100 c101 c102 c103 c104 c105 c106 c107 c108 c109 c110 c111 c112 c113 c114 c115 c116 c117 c118 c119 c120 c121 c122 c123 c124 c125 c126 c127 c128 c129 c130 c131 c132 c133 c134 c135 c136 c137 c138 c139 c140 c141 c142 c143 c144 c145 c146 c147 c148 c149 c150 c151 c152 c153 c154 c155 c156 c157 c158 c159 c160 c161 c162 c163 c164 c165 c166 c167 c168 c169 c170 c171 c172 c173 c174 c175 c176 c177 c178 c179 c180 c181 c182 c183 c184 c185 c186 c187 c188 c189 c190 c191 c192 c193 c194 c195 c196 c197 c198 c199 c200 c201 c202 c203 c204 c205 c206 c207 c208 c209 c210 c211 c212 c213 c214 c215 c216 c217 c218 c219 c220 c221 c222 c223 c224 c225 c226 c227 c228 c229 c230 c231 c232 c233 c234 c235 c236 c237 c238 c239 c240 c241 c242 c243 c244 c245 c246 c247 c248 c249 c250 c251 c252 c253 c254 c255 c256 c257 c258 c259 c260 c261 c262 c263 c264 c265 c266 c267 c268 c269 c270 c271 c272 c273 c274 c275 c276 c277 c278 c279 c280 c281 c282 c283 c284 c285 c286 c287 c288 c289 c290 c291 c292 c293 c294 c295 c296 c297 c298 c299 c300 c301 c302 c303 c304 c305 c306 c307 c308 c309 c310 c311 c312 c313 c314 c315 c316 c317 c318 c319 c320 c321 c322 c323 c324 c325 c326 c327 c328 c329 c330 c331 c332 c333 c334 c335 c336 c337 c338 c339 c340 c341 c342 c343 c344 c345 c346 c347 c348 c349 c350 : Value} (Q0 : Exit → Act → World → Prop)
    (hexit : ∀ wr rf, Below w4.heap.size w4 wr → Row wr gR 3 (n + 1) (i64 (Tj.pre g m)) → Row wr gF 3 p (i64 rf) → Laid g m m rf → ∀ d19 d20 d21 d157 d158 d159 d160 d161 d162 d163 d164 d165 d166 d167 d168 d169 d170 d171 d172 d173 d174 d175 d176 d177 d178 d179 d180 d181 d182 d183 d184 d185 d186 d187 d188 d189 d190 d191 d192 d193 d194 d195 d196 d197 d198 d199 d200 d201 : Value, Q0 (.exit 8) ⟨(List.toArray ((.slice (some ⟨bs, os, none⟩) (n + 1) k0) :: (.slice a1 m k1) :: (.slice a2 m k2) :: (.int .u8 mask) :: c4 :: c5 :: c6 :: c7 :: c8 :: (.int .i64 (n : Int)) :: (.slice (some ⟨gM, 0, none⟩) n n) :: c11 :: (.slice (some ⟨gR, 0, none⟩) (n + 1) (n + 1)) :: c13 :: c14 :: c15 :: (.slice (some ⟨gF, 0, none⟩) p p) :: (.slice (some ⟨gL, 0, none⟩) n n) :: c18 :: d19 :: d20 :: d21 :: c22 :: c23 :: c24 :: c25 :: c26 :: c27 :: c28 :: c29 :: c30 :: c31 :: c32 :: c33 :: c34 :: c35 :: c36 :: c37 :: c38 :: c39 :: c40 :: c41 :: c42 :: c43 :: c44 :: c45 :: c46 :: c47 :: c48 :: c49 :: c50 :: c51 :: c52 :: c53 :: c54 :: c55 :: c56 :: c57 :: c58 :: c59 :: c60 :: c61 :: c62 :: c63 :: c64 :: c65 :: c66 :: c67 :: c68 :: c69 :: c70 :: c71 :: c72 :: c73 :: c74 :: c75 :: c76 :: c77 :: c78 :: c79 :: c80 :: c81 :: c82 :: c83 :: c84 :: c85 :: c86 :: c87 :: c88 :: c89 :: c90 :: c91 :: c92 :: c93 :: c94 :: c95 :: c96 :: c97 :: c98 :: c99 :: c100 :: c101 :: c102 :: c103 :: c104 :: c105 :: c106 :: c107 :: c108 :: c109 :: c110 :: c111 :: c112 :: c113 :: c114 :: c115 :: c116 :: c117 :: c118 :: c119 :: c120 :: c121 :: c122 :: c123 :: c124 :: c125 :: c126 :: c127 :: c128 :: c129 :: c130 :: c131 :: c132 :: c133 :: c134 :: c135 :: c136 :: c137 :: c138 :: c139 :: c140 :: c141 :: c142 :: c143 :: c144 :: c145 :: c146 :: c147 :: c148 :: c149 :: c150 :: c151 :: c152 :: c153 :: c154 :: c155 :: c156 :: d157 :: d158 :: d159 :: d160 :: d161 :: d162 :: d163 :: d164 :: d165 :: d166 :: d167 :: d168 :: d169 :: d170 :: d171 :: d172 :: d173 :: d174 :: d175 :: d176 :: d177 :: d178 :: d179 :: d180 :: d181 :: d182 :: d183 :: d184 :: d185 :: d186 :: d187 :: d188 :: d189 :: d190 :: d191 :: d192 :: d193 :: d194 :: d195 :: d196 :: d197 :: d198 :: d199 :: d200 :: d201 :: c202 :: c203 :: c204 :: c205 :: c206 :: c207 :: c208 :: c209 :: c210 :: c211 :: c212 :: c213 :: c214 :: c215 :: c216 :: c217 :: c218 :: c219 :: c220 :: c221 :: c222 :: c223 :: c224 :: c225 :: c226 :: c227 :: c228 :: c229 :: c230 :: c231 :: c232 :: c233 :: c234 :: c235 :: c236 :: c237 :: c238 :: c239 :: c240 :: c241 :: c242 :: c243 :: c244 :: c245 :: c246 :: c247 :: c248 :: c249 :: c250 :: c251 :: c252 :: c253 :: c254 :: c255 :: c256 :: c257 :: c258 :: c259 :: c260 :: c261 :: c262 :: c263 :: c264 :: c265 :: c266 :: c267 :: c268 :: c269 :: c270 :: c271 :: c272 :: c273 :: c274 :: c275 :: c276 :: c277 :: c278 :: c279 :: c280 :: c281 :: c282 :: c283 :: c284 :: c285 :: c286 :: c287 :: c288 :: c289 :: c290 :: c291 :: c292 :: c293 :: c294 :: c295 :: c296 :: c297 :: c298 :: c299 :: c300 :: c301 :: c302 :: c303 :: c304 :: c305 :: c306 :: c307 :: c308 :: c309 :: c310 :: c311 :: c312 :: c313 :: c314 :: c315 :: c316 :: c317 :: c318 :: c319 :: c320 :: c321 :: c322 :: c323 :: c324 :: c325 :: c326 :: c327 :: c328 :: c329 :: c330 :: c331 :: c332 :: c333 :: c334 :: c335 :: c336 :: c337 :: c338 :: c339 :: c340 :: c341 :: c342 :: c343 :: c344 :: c345 :: c346 :: c347 :: c348 :: c349 :: c350 :: [])), []⟩ wr)
    (h0 : Below w4.heap.size w4 wr0) (r0 : Row wr0 gR 3 (n + 1) (i64 (Tj.pre g m))) (rf0 : Nat → Nat) (rF0 : Row wr0 gF 3 p (i64 rf0)) (rL0 : Row wr0 gL 3 n (i64 (Tj.pre g m))) :
    Code.wp Try.prog (Code.loop ((Try.f3.body.bind (loopIn 8)).getD .skip)) Q0 ⟨(List.toArray ((.slice (some ⟨bs, os, none⟩) (n + 1) k0) :: (.slice a1 m k1) :: (.slice a2 m k2) :: (.int .u8 mask) :: c4 :: c5 :: c6 :: c7 :: c8 :: (.int .i64 (n : Int)) :: (.slice (some ⟨gM, 0, none⟩) n n) :: c11 :: (.slice (some ⟨gR, 0, none⟩) (n + 1) (n + 1)) :: c13 :: c14 :: c15 :: (.slice (some ⟨gF, 0, none⟩) p p) :: (.slice (some ⟨gL, 0, none⟩) n n) :: c18 :: (.int .i64 0) :: c20 :: c21 :: c22 :: c23 :: c24 :: c25 :: c26 :: c27 :: c28 :: c29 :: c30 :: c31 :: c32 :: c33 :: c34 :: c35 :: c36 :: c37 :: c38 :: c39 :: c40 :: c41 :: c42 :: c43 :: c44 :: c45 :: c46 :: c47 :: c48 :: c49 :: c50 :: c51 :: c52 :: c53 :: c54 :: c55 :: c56 :: c57 :: c58 :: c59 :: c60 :: c61 :: c62 :: c63 :: c64 :: c65 :: c66 :: c67 :: c68 :: c69 :: c70 :: c71 :: c72 :: c73 :: c74 :: c75 :: c76 :: c77 :: c78 :: c79 :: c80 :: c81 :: c82 :: c83 :: c84 :: c85 :: c86 :: c87 :: c88 :: c89 :: c90 :: c91 :: c92 :: c93 :: c94 :: c95 :: c96 :: c97 :: c98 :: c99 :: c100 :: c101 :: c102 :: c103 :: c104 :: c105 :: c106 :: c107 :: c108 :: c109 :: c110 :: c111 :: c112 :: c113 :: c114 :: c115 :: c116 :: c117 :: c118 :: c119 :: c120 :: c121 :: c122 :: c123 :: c124 :: c125 :: c126 :: c127 :: c128 :: c129 :: c130 :: c131 :: c132 :: c133 :: c134 :: c135 :: c136 :: c137 :: c138 :: c139 :: c140 :: c141 :: c142 :: c143 :: c144 :: c145 :: c146 :: c147 :: c148 :: c149 :: c150 :: c151 :: c152 :: c153 :: c154 :: c155 :: c156 :: c157 :: c158 :: c159 :: c160 :: c161 :: c162 :: c163 :: c164 :: c165 :: c166 :: c167 :: c168 :: c169 :: c170 :: c171 :: c172 :: c173 :: c174 :: c175 :: c176 :: c177 :: c178 :: c179 :: c180 :: c181 :: c182 :: c183 :: c184 :: c185 :: c186 :: c187 :: c188 :: c189 :: c190 :: c191 :: c192 :: c193 :: c194 :: c195 :: c196 :: c197 :: c198 :: c199 :: c200 :: c201 :: c202 :: c203 :: c204 :: c205 :: c206 :: c207 :: c208 :: c209 :: c210 :: c211 :: c212 :: c213 :: c214 :: c215 :: c216 :: c217 :: c218 :: c219 :: c220 :: c221 :: c222 :: c223 :: c224 :: c225 :: c226 :: c227 :: c228 :: c229 :: c230 :: c231 :: c232 :: c233 :: c234 :: c235 :: c236 :: c237 :: c238 :: c239 :: c240 :: c241 :: c242 :: c243 :: c244 :: c245 :: c246 :: c247 :: c248 :: c249 :: c250 :: c251 :: c252 :: c253 :: c254 :: c255 :: c256 :: c257 :: c258 :: c259 :: c260 :: c261 :: c262 :: c263 :: c264 :: c265 :: c266 :: c267 :: c268 :: c269 :: c270 :: c271 :: c272 :: c273 :: c274 :: c275 :: c276 :: c277 :: c278 :: c279 :: c280 :: c281 :: c282 :: c283 :: c284 :: c285 :: c286 :: c287 :: c288 :: c289 :: c290 :: c291 :: c292 :: c293 :: c294 :: c295 :: c296 :: c297 :: c298 :: c299 :: c300 :: c301 :: c302 :: c303 :: c304 :: c305 :: c306 :: c307 :: c308 :: c309 :: c310 :: c311 :: c312 :: c313 :: c314 :: c315 :: c316 :: c317 :: c318 :: c319 :: c320 :: c321 :: c322 :: c323 :: c324 :: c325 :: c326 :: c327 :: c328 :: c329 :: c330 :: c331 :: c332 :: c333 :: c334 :: c335 :: c336 :: c337 :: c338 :: c339 :: c340 :: c341 :: c342 :: c343 :: c344 :: c345 :: c346 :: c347 :: c348 :: c349 :: c350 :: [])), []⟩ wr0 := by
  conv => arg 2; arg 1; whnf
  go_loopg [19, 20, 21] n (fun k x _ _ wr => ∃ (u : Nat) (rf : Nat → Nat), u ≤ n ∧ x = .int .i64 (u : Int) ∧ k = n - u ∧ Below w4.heap.size w4 wr ∧ Row wr gR 3 (n + 1) (i64 (Tj.pre g m)) ∧ Row wr gF 3 p (i64 rf) ∧ Row wr gL 3 n (i64 (fillAt g m (g.st u))) ∧ Laid g m (g.st u) rf)
  case atStart => exact ⟨0, rf0, Nat.zero_le _, rfl, rfl, h0, r0, rF0, rL0.congr (fun j _ => by simp only [i64, G.zero, fillAt_zero]), by rw [G.zero]; exact laid_start g m rf0⟩
  case round =>
    obtain ⟨u, rf, hu, rfl, hk, hb, hr, hf, hl, hld⟩ := hrel
    have HK : Hid (gk = n - u) := hk
    have HP : Hid (p = Tj.pre g m n) := hp
    have HE : Hid (∀ wr rf, Below w4.heap.size w4 wr → Row wr gR 3 (n + 1) (i64 (Tj.pre g m)) → Row wr gF 3 p (i64 rf) → Laid g m m rf → ∀ d19 d20 d21 d157 d158 d159 d160 d161 d162 d163 d164 d165 d166 d167 d168 d169 d170 d171 d172 d173 d174 d175 d176 d177 d178 d179 d180 d181 d182 d183 d184 d185 d186 d187 d188 d189 d190 d191 d192 d193 d194 d195 d196 d197 d198 d199 d200 d201 : Value, Q0 (.exit 8) ⟨(List.toArray ((.slice (some ⟨bs, os, none⟩) (n + 1) k0) :: (.slice a1 m k1) :: (.slice a2 m k2) :: (.int .u8 mask) :: c4 :: c5 :: c6 :: c7 :: c8 :: (.int .i64 (n : Int)) :: (.slice (some ⟨gM, 0, none⟩) n n) :: c11 :: (.slice (some ⟨gR, 0, none⟩) (n + 1) (n + 1)) :: c13 :: c14 :: c15 :: (.slice (some ⟨gF, 0, none⟩) p p) :: (.slice (some ⟨gL, 0, none⟩) n n) :: c18 :: d19 :: d20 :: d21 :: c22 :: c23 :: c24 :: c25 :: c26 :: c27 :: c28 :: c29 :: c30 :: c31 :: c32 :: c33 :: c34 :: c35 :: c36 :: c37 :: c38 :: c39 :: c40 :: c41 :: c42 :: c43 :: c44 :: c45 :: c46 :: c47 :: c48 :: c49 :: c50 :: c51 :: c52 :: c53 :: c54 :: c55 :: c56 :: c57 :: c58 :: c59 :: c60 :: c61 :: c62 :: c63 :: c64 :: c65 :: c66 :: c67 :: c68 :: c69 :: c70 :: c71 :: c72 :: c73 :: c74 :: c75 :: c76 :: c77 :: c78 :: c79 :: c80 :: c81 :: c82 :: c83 :: c84 :: c85 :: c86 :: c87 :: c88 :: c89 :: c90 :: c91 :: c92 :: c93 :: c94 :: c95 :: c96 :: c97 :: c98 :: c99 :: c100 :: c101 :: c102 :: c103 :: c104 :: c105 :: c106 :: c107 :: c108 :: c109 :: c110 :: c111 :: c112 :: c113 :: c114 :: c115 :: c116 :: c117 :: c118 :: c119 :: c120 :: c121 :: c122 :: c123 :: c124 :: c125 :: c126 :: c127 :: c128 :: c129 :: c130 :: c131 :: c132 :: c133 :: c134 :: c135 :: c136 :: c137 :: c138 :: c139 :: c140 :: c141 :: c142 :: c143 :: c144 :: c145 :: c146 :: c147 :: c148 :: c149 :: c150 :: c151 :: c152 :: c153 :: c154 :: c155 :: c156 :: d157 :: d158 :: d159 :: d160 :: d161 :: d162 :: d163 :: d164 :: d165 :: d166 :: d167 :: d168 :: d169 :: d170 :: d171 :: d172 :: d173 :: d174 :: d175 :: d176 :: d177 :: d178 :: d179 :: d180 :: d181 :: d182 :: d183 :: d184 :: d185 :: d186 :: d187 :: d188 :: d189 :: d190 :: d191 :: d192 :: d193 :: d194 :: d195 :: d196 :: d197 :: d198 :: d199 :: d200 :: d201 :: c202 :: c203 :: c204 :: c205 :: c206 :: c207 :: c208 :: c209 :: c210 :: c211 :: c212 :: c213 :: c214 :: c215 :: c216 :: c217 :: c218 :: c219 :: c220 :: c221 :: c222 :: c223 :: c224 :: c225 :: c226 :: c227 :: c228 :: c229 :: c230 :: c231 :: c232 :: c233 :: c234 :: c235 :: c236 :: c237 :: c238 :: c239 :: c240 :: c241 :: c242 :: c243 :: c244 :: c245 :: c246 :: c247 :: c248 :: c249 :: c250 :: c251 :: c252 :: c253 :: c254 :: c255 :: c256 :: c257 :: c258 :: c259 :: c260 :: c261 :: c262 :: c263 :: c264 :: c265 :: c266 :: c267 :: c268 :: c269 :: c270 :: c271 :: c272 :: c273 :: c274 :: c275 :: c276 :: c277 :: c278 :: c279 :: c280 :: c281 :: c282 :: c283 :: c284 :: c285 :: c286 :: c287 :: c288 :: c289 :: c290 :: c291 :: c292 :: c293 :: c294 :: c295 :: c296 :: c297 :: c298 :: c299 :: c300 :: c301 :: c302 :: c303 :: c304 :: c305 :: c306 :: c307 :: c308 :: c309 :: c310 :: c311 :: c312 :: c313 :: c314 :: c315 :: c316 :: c317 :: c318 :: c319 :: c320 :: c321 :: c322 :: c323 :: c324 :: c325 :: c326 :: c327 :: c328 :: c329 :: c330 :: c331 :: c332 :: c333 :: c334 :: c335 :: c336 :: c337 :: c338 :: c339 :: c340 :: c341 :: c342 :: c343 :: c344 :: c345 :: c346 :: c347 :: c348 :: c349 :: c350 :: [])), []⟩ wr) := hexit
    have hnn := G.n_le
    have hmm := G.m_le
    have hpm : p ≤ 4096 := by rw [hp]; have := pre_le_m g m n; omega
    clear hk h0 r0 rF0 rL0 hexit hp
    by_cases hlt : u < n
    · have cu := G.startAt hb (i := u) (by omega)
      have hs1 := G.mono hlt
      have hs2 := G.st_le (i := u + 1) (by omega)
      obtain ⟨lo, hlo⟩ : ∃ x, x = g.st u := ⟨_, rfl⟩
      obtain ⟨hi, hhi⟩ : ∃ x, x = g.st (u + 1) := ⟨_, rfl⟩
      have HLO : Hid (lo = g.st u) := hlo
      have HHI : Hid (hi = g.st (u + 1)) := hhi
      rw [← hlo] at cu hs1 hl hld
      rw [← hhi] at hs1 hs2
      clear hlo hhi
      go_wp2_with fail
      go_loopg [20, 21] (hi - lo) (fun k x _ wr => ∃ (e : Nat) (rf : Nat → Nat), lo ≤ e ∧ e ≤ hi ∧ x = .int .i64 (e : Int) ∧ k = hi - e ∧ Below w4.heap.size w4 wr ∧ Row wr gR 3 (n + 1) (i64 (Tj.pre g m)) ∧ Row wr gF 3 p (i64 rf) ∧ Row wr gL 3 n (i64 (fillAt g m e)) ∧ Laid g m e rf)
      case atStart => exact ⟨lo, rf, Nat.le_refl _, hs1, rfl, rfl, hb, hr, hf, hl, hld⟩
      case round =>
        clear hb hr hf hl hld cu
        obtain ⟨e, rf, he1, he2, rfl, hk2, hb, hr, hf, hl, hld⟩ := hrel
        have HK2 : Hid (gk = hi - e) := hk2
        clear hk2
        have cu1 := G.startAt hb (i := u + 1) (by omega)
        rw [← HHI.out] at cu1
        by_cases hle : e < hi
        · obtain ⟨bt, ot, rfl, hbt, hto⟩ := G.tgts (by omega)
          obtain ⟨bk, ok', rfl, hbk, hkd⟩ := G.kinds (by omega)
          obtain ⟨x, kc0, hok⟩ := hkd e (by omega)
          have kc := (hb.cell (p := ⟨bk, ok' + e, none⟩) hbk).trans kc0
          have tc := (hb.cell (p := ⟨bt, ot + e, none⟩) hbt).trans (hto e (by omega))
          obtain ⟨t, ht⟩ : ∃ t, t = g.to e := ⟨_, rfl⟩
          have htn : t < n := by rw [ht]; exact G.to_lt (by omega)
          rw [← ht] at tc
          have HT : Hid (t = g.to e) := ht
          have HOK : Hid (g.ok e = !(bits .and .u8 x mask == 0)) := hok
          clear ht hto hkd hok kc0
          cases tb : (bits .and .u8 x mask != 0) with
          | false =>
            have OK : g.ok e = false := by rw [HOK.out]; exact tb
            have hl2 : Row wr gL 3 n (i64 (fillAt g m (e + 1))) := hl.congr (fun j _ => by simp only [i64, fillAt_miss OK])
            have hld2 := laid_miss hld OK
            clear OK hl hld
            go_wp2_with fail
            go_roundg (hi - (e + 1))
            case measure => rw [HK2.out]; omega
            case rel => exact ⟨e + 1, rf, by omega, by omega, by go_num, rfl, hb, hr, hf, hl2, hld2⟩
          | true =>
            have OK : g.ok e = true := by rw [HOK.out]; exact tb
            have hem : e < m := by omega
            have hpl : fillAt g m e t < p := by
              rw [HT.out, HP.out]
              have h1 := place_lt hem OK
              have h2 := pre_le g m (show g.to e + 1 ≤ n from G.to_lt hem)
              unfold fillAt
              omega
            have hld2 : Laid g m (e + 1) (upd rf (fillAt g m e t) u) := by
              have hug : u < g.n := by rw [G.gn]; exact hlt
              have h1 : g.st u ≤ e := by rw [← HLO.out]; exact he1
              have h2 : e < g.st (u + 1) := by rw [← HHI.out]; exact hle
              have := laid_hit hld hem OK hug h1 h2 (fun u' hu' h3 h4 => G.wf.uniq hug hu' h1 h2 h3 h4)
              rw [HT.out]
              exact this
            obtain ⟨y, hy⟩ : ∃ y, y = fillAt g m e t := ⟨_, rfl⟩
            have c1 : wr.cell? ⟨gL, t, none⟩ = some (.int .i64 (y : Int)) := by rw [hy]; exact hl.cell htn
            rw [← hy] at hpl hld2
            have c2 : wr.cell? ⟨gF, y, none⟩ = some (.int .i64 (rf y : Int)) := hf.cell hpl
            have f2 := hf.free y
            have f1 := hl.free t
            have d1 : gL ≠ gF := by omega
            have HY : Hid (y = fillAt g m e t) := hy
            clear hy
            go_upto_region 42 with fail
            have hf2 := hf.setI y u
            have hl2 := hl.other (a := ⟨gF, y, none⟩) (.int .i64 (u : Int)) d1
            have hr2 := hr.other (a := ⟨gF, y, none⟩) (.int .i64 (u : Int)) (by show gR ≠ gF; omega)
            have hb2 : Below w4.heap.size w4 (wr.setCell ⟨gF, y, none⟩ (.int .i64 (u : Int))) := hb.setCell (by show w4.heap.size ≤ gF; omega) _
            clear hf hl hr hb c1 c2 f1 f2 cu1 kc tc
            generalize wr.setCell ⟨gF, y, none⟩ (.int .i64 (u : Int)) = w7 at hf2 hl2 hr2 hb2 ⊢
            have c1 : w7.cell? ⟨gL, t, none⟩ = some (.int .i64 (y : Int)) := by rw [HY.out]; exact hl2.cell htn
            have f1 := hl2.free t
            have hl3 := hl2.setI t (y + 1)
            have hl4 : Row (w7.setCell ⟨gL, t, none⟩ (.int .i64 ((y + 1 : Nat) : Int))) gL 3 n (i64 (fillAt g m (e + 1))) := hl3.congr (fun j _ => by simp only [i64, fillAt_hit OK, ← HT.out, ← HY.out])
            have hr4 := hr2.other (a := ⟨gL, t, none⟩) (.int .i64 ((y + 1 : Nat) : Int)) (by show gR ≠ gL; omega)
            have hf4 := hf2.other (a := ⟨gL, t, none⟩) (.int .i64 ((y + 1 : Nat) : Int)) (by show gF ≠ gL; omega)
            have hb4 : Below w4.heap.size w4 (w7.setCell ⟨gL, t, none⟩ (.int .i64 ((y + 1 : Nat) : Int))) := hb2.setCell (by show w4.heap.size ≤ gL; omega) _
            rw [show ((y + 1 : Nat) : Int) = (y : Int) + 1 from by omega] at hl4 hr4 hf4 hb4
            clear OK hl2 hl3 hr2 hf2 hb2
            go_wp2_with fail
            go_roundg (hi - (e + 1))
            case measure => rw [HK2.out]; omega
            case rel => exact ⟨e + 1, _, by omega, by omega, by go_num, rfl, hb4, hr4, hf4, hl4, hld2⟩
        · obtain rfl : e = hi := by omega
          have hl2 : Row wr gL 3 n (i64 (fillAt g m (g.st (u + 1)))) := by rw [← HHI.out]; exact hl
          have hld2 : Laid g m (g.st (u + 1)) rf := by rw [← HHI.out]; exact hld
          go_wp2_with fail
          go_roundg (n - (u + 1))
          case measure => rw [HK.out]; omega
          case rel => exact ⟨u + 1, rf, by omega, by go_num, rfl, hb, hr, hf, hl2, hld2⟩
    · obtain rfl : u = n := by omega
      have hld2 : Laid g m m rf := by
        have e : g.st u = m := by have := G.wf.last; rw [G.gn] at this; exact this
        rw [e] at hld; exact hld
      go_wp2_with fail
      exact HE.out _ rf hb hr hf hld2 _ _ _ _ _ _ _ _ _ _ _ _ _ _ _ _ _ _ _ _ _ _ _ _ _ _ _ _ _ _ _ _ _ _ _ _ _ _ _ _ _ _ _ _ _ _ _ _
end Go.Proofs.Qxb6001346a
