/-
  A loop of the law 'components are mutual reachability'.
-/
import Derived.Test.Qxb6001346aMut0
set_option linter.all false
namespace Go.Proofs.Qxb6001346a
open Go.RowKit Tj

set_option maxRecDepth 1000000 in
set_option maxHeartbeats 8000000 in
theorem mutA {w4 wr0 : World} {g : Gr} {n m bs os gM gR : Nat} {a1 a2 : Option Addr} {mask : Int} {k0 k1 k2 : Nat} (G : MG w4 g n m bs os a1 a2 mask) (o1 : w4.heap.size ≤ gR) {c4 c5 c6 c7 c8 c11 c14 c15 c16 c17 c18 c19 c20 c21 c22 c23 c24 c25 c26 c27 c28 c29 c30 c31 c32 c33 c34 c35 c36 c37 c38 c39 c40 c41 c42 c43 c44 c45 c46 c47 c48 c49 c50 c51 c52 c53 c54 c55 c56 c57 c58 c59 c60 c61 c62 c63 c64 c65 c66 c67 c68 c69 c70 c71 c72 c73 c74 c75 c76 c77 c78 c79 c80 c81 c82 c83 c84 c85 c86 c87 c88 c89 c90 c91 c92 c93 c94 c95 c96 c97 c98 c99 c100 c101 c102 c103 c104 c105 c106 c107 c108 c109 c110 c111 c112 c113 c114 c115 c116 c117 c118 c119 c120 c121 c122 c123 c124 c125 c126 c127 c128 c129 c130 c131 c132 c133 c134 c135 c136 c137 c138 c139 c140 c141 c142 c143 c144 c145 c146 c147 c148 c149 c150 c151 c152 c153 c154 c155 c156 c157 c158 c159 c160 c161 c162 c163 c164 c165 c166 c167 c168 c169 c170 c171 c172 c173 c174 c175 c176 c177 c178 c179 c180 c181 c182 c183 c184 c185 c186 c187 c188 c189 c190 c191 c192 c193 c194 c195 c196 c197 c198 c199 c200 c201 c202 c203 c204 c205 c206 c207 c208 c209 c210 c211 c212 c213 c214 c215 c216 c217 c218 c219 c220 c221 c222 c223 c224 c225 c226 c227 c228 c229 c230 c231 c232 c233 c234 c235 c236 c237 c238 c239 c240 c241 c242 c243 c244 c245 c246 c247 c248 c249 c250 c251 c252 c253 c254 c255 c256 c257 c258 c259 c260 c261 c262 c263 c264 c265 c266 c267 c268 c269 c270 c271 c272 c273 c274 c275 c276 c277 c278 c279 c280 c281 c282 c283 c284 c285 c286 c287 c288 c289 c290 c291 c292 c293 c294 c295 c296 c297 c298 c299 c300 c301 c302 c303 c304 c305 c306 c307 c308 c309 c310 c311 c312 c313 c314 c315 c316 c317 c318 c319 c320 c321 c322 c323 c324 c325 c326 c327 c328 c329 c330 c331 c332 c333 c334 c335 c336 c337 c338 c339 c340 c341 c342 c343 c344 c345 c346 c347 c348 c349 c350 : Value} (Q0 : Exit → Act → World → Prop)
    (hexit : ∀ wr, Below w4.heap.size w4 wr → Row wr gR 3 (n + 1) (i64 (R1 g m)) → ∀ d13 d14 d84 d85 d86 d87 d88 d89 d90 d91 d92 d93 d94 d95 d96 d97 d98 d99 d100 d101 d102 d103 d104 d105 d106 d107 d108 d109 d110 d111 d112 d113 d114 d115 d116 d117 d118 d119 d120 d121 : Value, Q0 (.exit 0) ⟨(List.toArray ((.slice (some ⟨bs, os, none⟩) (n + 1) k0) :: (.slice a1 m k1) :: (.slice a2 m k2) :: (.int .u8 mask) :: c4 :: c5 :: c6 :: c7 :: c8 :: (.int .i64 (n : Int)) :: (.slice (some ⟨gM, 0, none⟩) n n) :: c11 :: (.slice (some ⟨gR, 0, none⟩) (n + 1) (n + 1)) :: d13 :: d14 :: c15 :: c16 :: c17 :: c18 :: c19 :: c20 :: c21 :: c22 :: c23 :: c24 :: c25 :: c26 :: c27 :: c28 :: c29 :: c30 :: c31 :: c32 :: c33 :: c34 :: c35 :: c36 :: c37 :: c38 :: c39 :: c40 :: c41 :: c42 :: c43 :: c44 :: c45 :: c46 :: c47 :: c48 :: c49 :: c50 :: c51 :: c52 :: c53 :: c54 :: c55 :: c56 :: c57 :: c58 :: c59 :: c60 :: c61 :: c62 :: c63 :: c64 :: c65 :: c66 :: c67 :: c68 :: c69 :: c70 :: c71 :: c72 :: c73 :: c74 :: c75 :: c76 :: c77 :: c78 :: c79 :: c80 :: c81 :: c82 :: c83 :: d84 :: d85 :: d86 :: d87 :: d88 :: d89 :: d90 :: d91 :: d92 :: d93 :: d94 :: d95 :: d96 :: d97 :: d98 :: d99 :: d100 :: d101 :: d102 :: d103 :: d104 :: d105 :: d106 :: d107 :: d108 :: d109 :: d110 :: d111 :: d112 :: d113 :: d114 :: d115 :: d116 :: d117 :: d118 :: d119 :: d120 :: d121 :: c122 :: c123 :: c124 :: c125 :: c126 :: c127 :: c128 :: c129 :: c130 :: c131 :: c132 :: c133 :: c134 :: c135 :: c136 :: c137 :: c138 :: c139 :: c140 :: c141 :: c142 :: c143 :: c144 :: c145 :: c146 :: c147 :: c148 :: c149 :: c150 :: c151 :: c152 :: c153 :: c154 :: c155 :: c156 :: c157 :: c158 :: c159 :: c160 :: c161 :: c162 :: c163 :: c164 :: c165 :: c166 :: c167 :: c168 :: c169 :: c170 :: c171 :: c172 :: c173 :: c174 :: c175 :: c176 :: c177 :: c178 :: c179 :: c180 :: c181 :: c182 :: c183 :: c184 :: c185 :: c186 :: c187 :: c188 :: c189 :: c190 :: c191 :: c192 :: c193 :: c194 :: c195 :: c196 :: c197 :: c198 :: c199 :: c200 :: c201 :: c202 :: c203 :: c204 :: c205 :: c206 :: c207 :: c208 :: c209 :: c210 :: c211 :: c212 :: c213 :: c214 :: c215 :: c216 :: c217 :: c218 :: c219 :: c220 :: c221 :: c222 :: c223 :: c224 :: c225 :: c226 :: c227 :: c228 :: c229 :: c230 :: c231 :: c232 :: c233 :: c234 :: c235 :: c236 :: c237 :: c238 :: c239 :: c240 :: c241 :: c242 :: c243 :: c244 :: c245 :: c246 :: c247 :: c248 :: c249 :: c250 :: c251 :: c252 :: c253 :: c254 :: c255 :: c256 :: c257 :: c258 :: c259 :: c260 :: c261 :: c262 :: c263 :: c264 :: c265 :: c266 :: c267 :: c268 :: c269 :: c270 :: c271 :: c272 :: c273 :: c274 :: c275 :: c276 :: c277 :: c278 :: c279 :: c280 :: c281 :: c282 :: c283 :: c284 :: c285 :: c286 :: c287 :: c288 :: c289 :: c290 :: c291 :: c292 :: c293 :: c294 :: c295 :: c296 :: c297 :: c298 :: c299 :: c300 :: c301 :: c302 :: c303 :: c304 :: c305 :: c306 :: c307 :: c308 :: c309 :: c310 :: c311 :: c312 :: c313 :: c314 :: c315 :: c316 :: c317 :: c318 :: c319 :: c320 :: c321 :: c322 :: c323 :: c324 :: c325 :: c326 :: c327 :: c328 :: c329 :: c330 :: c331 :: c332 :: c333 :: c334 :: c335 :: c336 :: c337 :: c338 :: c339 :: c340 :: c341 :: c342 :: c343 :: c344 :: c345 :: c346 :: c347 :: c348 :: c349 :: c350 :: [])), []⟩ wr)
    (h0 : Below w4.heap.size w4 wr0) (r0 : Row wr0 gR 3 (n + 1) (i64 (R1 g 0))) :
    Code.wp Try.prog (Code.loop ((Try.f3.body.bind (loopIn 0)).getD .skip)) Q0 ⟨(List.toArray ((.slice (some ⟨bs, os, none⟩) (n + 1) k0) :: (.slice a1 m k1) :: (.slice a2 m k2) :: (.int .u8 mask) :: c4 :: c5 :: c6 :: c7 :: c8 :: (.int .i64 (n : Int)) :: (.slice (some ⟨gM, 0, none⟩) n n) :: c11 :: (.slice (some ⟨gR, 0, none⟩) (n + 1) (n + 1)) :: (.int .i64 0) :: c14 :: c15 :: c16 :: c17 :: c18 :: c19 :: c20 :: c21 :: c22 :: c23 :: c24 :: c25 :: c26 :: c27 :: c28 :: c29 :: c30 :: c31 :: c32 :: c33 :: c34 :: c35 :: c36 :: c37 :: c38 :: c39 :: c40 :: c41 :: c42 :: c43 :: c44 :: c45 :: c46 :: c47 :: c48 :: c49 :: c50 :: c51 :: c52 :: c53 :: c54 :: c55 :: c56 :: c57 :: c58 :: c59 :: c60 :: c61 :: c62 :: c63 :: c64 :: c65 :: c66 :: c67 :: c68 :: c69 :: c70 :: c71 :: c72 :: c73 :: c74 :: c75 :: c76 :: c77 :: c78 :: c79 :: c80 :: c81 :: c82 :: c83 :: c84 :: c85 :: c86 :: c87 :: c88 :: c89 :: c90 :: c91 :: c92 :: c93 :: c94 :: c95 :: c96 :: c97 :: c98 :: c99 :: c100 :: c101 :: c102 :: c103 :: c104 :: c105 :: c106 :: c107 :: c108 :: c109 :: c110 :: c111 :: c112 :: c113 :: c114 :: c115 :: c116 :: c117 :: c118 :: c119 :: c120 :: c121 :: c122 :: c123 :: c124 :: c125 :: c126 :: c127 :: c128 :: c129 :: c130 :: c131 :: c132 :: c133 :: c134 :: c135 :: c136 :: c137 :: c138 :: c139 :: c140 :: c141 :: c142 :: c143 :: c144 :: c145 :: c146 :: c147 :: c148 :: c149 :: c150 :: c151 :: c152 :: c153 :: c154 :: c155 :: c156 :: c157 :: c158 :: c159 :: c160 :: c161 :: c162 :: c163 :: c164 :: c165 :: c166 :: c167 :: c168 :: c169 :: c170 :: c171 :: c172 :: c173 :: c174 :: c175 :: c176 :: c177 :: c178 :: c179 :: c180 :: c181 :: c182 :: c183 :: c184 :: c185 :: c186 :: c187 :: c188 :: c189 :: c190 :: c191 :: c192 :: c193 :: c194 :: c195 :: c196 :: c197 :: c198 :: c199 :: c200 :: c201 :: c202 :: c203 :: c204 :: c205 :: c206 :: c207 :: c208 :: c209 :: c210 :: c211 :: c212 :: c213 :: c214 :: c215 :: c216 :: c217 :: c218 :: c219 :: c220 :: c221 :: c222 :: c223 :: c224 :: c225 :: c226 :: c227 :: c228 :: c229 :: c230 :: c231 :: c232 :: c233 :: c234 :: c235 :: c236 :: c237 :: c238 :: c239 :: c240 :: c241 :: c242 :: c243 :: c244 :: c245 :: c246 :: c247 :: c248 :: c249 :: c250 :: c251 :: c252 :: c253 :: c254 :: c255 :: c256 :: c257 :: c258 :: c259 :: c260 :: c261 :: c262 :: c263 :: c264 :: c265 :: c266 :: c267 :: c268 :: c269 :: c270 :: c271 :: c272 :: c273 :: c274 :: c275 :: c276 :: c277 :: c278 :: c279 :: c280 :: c281 :: c282 :: c283 :: c284 :: c285 :: c286 :: c287 :: c288 :: c289 :: c290 :: c291 :: c292 :: c293 :: c294 :: c295 :: c296 :: c297 :: c298 :: c299 :: c300 :: c301 :: c302 :: c303 :: c304 :: c305 :: c306 :: c307 :: c308 :: c309 :: c310 :: c311 :: c312 :: c313 :: c314 :: c315 :: c316 :: c317 :: c318 :: c319 :: c320 :: c321 :: c322 :: c323 :: c324 :: c325 :: c326 :: c327 :: c328 :: c329 :: c330 :: c331 :: c332 :: c333 :: c334 :: c335 :: c336 :: c337 :: c338 :: c339 :: c340 :: c341 :: c342 :: c343 :: c344 :: c345 :: c346 :: c347 :: c348 :: c349 :: c350 :: [])), []⟩ wr0 := by
  conv => arg 2; arg 1; whnf
  go_loopg [13, 14] n (fun k x _ wr => ∃ u : Nat, u ≤ n ∧ x = .int .i64 (u : Int) ∧ k = n - u ∧ Below w4.heap.size w4 wr ∧ Row wr gR 3 (n + 1) (i64 (R1 g (g.st u))))
  case atStart => exact ⟨0, Nat.zero_le _, rfl, rfl, h0, by rw [G.zero]; exact r0⟩
  case round =>
    obtain ⟨u, hu, rfl, hk, hb, hr⟩ := hrel
    have HK : Hid (gk = n - u) := hk
    have HE : Hid (∀ wr, Below w4.heap.size w4 wr → Row wr gR 3 (n + 1) (i64 (R1 g m)) → ∀ d13 d14 d84 d85 d86 d87 d88 d89 d90 d91 d92 d93 d94 d95 d96 d97 d98 d99 d100 d101 d102 d103 d104 d105 d106 d107 d108 d109 d110 d111 d112 d113 d114 d115 d116 d117 d118 d119 d120 d121 : Value, Q0 (.exit 0) ⟨(List.toArray ((.slice (some ⟨bs, os, none⟩) (n + 1) k0) :: (.slice a1 m k1) :: (.slice a2 m k2) :: (.int .u8 mask) :: c4 :: c5 :: c6 :: c7 :: c8 :: (.int .i64 (n : Int)) :: (.slice (some ⟨gM, 0, none⟩) n n) :: c11 :: (.slice (some ⟨gR, 0, none⟩) (n + 1) (n + 1)) :: d13 :: d14 :: c15 :: c16 :: c17 :: c18 :: c19 :: c20 :: c21 :: c22 :: c23 :: c24 :: c25 :: c26 :: c27 :: c28 :: c29 :: c30 :: c31 :: c32 :: c33 :: c34 :: c35 :: c36 :: c37 :: c38 :: c39 :: c40 :: c41 :: c42 :: c43 :: c44 :: c45 :: c46 :: c47 :: c48 :: c49 :: c50 :: c51 :: c52 :: c53 :: c54 :: c55 :: c56 :: c57 :: c58 :: c59 :: c60 :: c61 :: c62 :: c63 :: c64 :: c65 :: c66 :: c67 :: c68 :: c69 :: c70 :: c71 :: c72 :: c73 :: c74 :: c75 :: c76 :: c77 :: c78 :: c79 :: c80 :: c81 :: c82 :: c83 :: d84 :: d85 :: d86 :: d87 :: d88 :: d89 :: d90 :: d91 :: d92 :: d93 :: d94 :: d95 :: d96 :: d97 :: d98 :: d99 :: d100 :: d101 :: d102 :: d103 :: d104 :: d105 :: d106 :: d107 :: d108 :: d109 :: d110 :: d111 :: d112 :: d113 :: d114 :: d115 :: d116 :: d117 :: d118 :: d119 :: d120 :: d121 :: c122 :: c123 :: c124 :: c125 :: c126 :: c127 :: c128 :: c129 :: c130 :: c131 :: c132 :: c133 :: c134 :: c135 :: c136 :: c137 :: c138 :: c139 :: c140 :: c141 :: c142 :: c143 :: c144 :: c145 :: c146 :: c147 :: c148 :: c149 :: c150 :: c151 :: c152 :: c153 :: c154 :: c155 :: c156 :: c157 :: c158 :: c159 :: c160 :: c161 :: c162 :: c163 :: c164 :: c165 :: c166 :: c167 :: c168 :: c169 :: c170 :: c171 :: c172 :: c173 :: c174 :: c175 :: c176 :: c177 :: c178 :: c179 :: c180 :: c181 :: c182 :: c183 :: c184 :: c185 :: c186 :: c187 :: c188 :: c189 :: c190 :: c191 :: c192 :: c193 :: c194 :: c195 :: c196 :: c197 :: c198 :: c199 :: c200 :: c201 :: c202 :: c203 :: c204 :: c205 :: c206 :: c207 :: c208 :: c209 :: c210 :: c211 :: c212 :: c213 :: c214 :: c215 :: c216 :: c217 :: c218 :: c219 :: c220 :: c221 :: c222 :: c223 :: c224 :: c225 :: c226 :: c227 :: c228 :: c229 :: c230 :: c231 :: c232 :: c233 :: c234 :: c235 :: c236 :: c237 :: c238 :: c239 :: c240 :: c241 :: c242 :: c243 :: c244 :: c245 :: c246 :: c247 :: c248 :: c249 :: c250 :: c251 :: c252 :: c253 :: c254 :: c255 :: c256 :: c257 :: c258 :: c259 :: c260 :: c261 :: c262 :: c263 :: c264 :: c265 :: c266 :: c267 :: c268 :: c269 :: c270 :: c271 :: c272 :: c273 :: c274 :: c275 :: c276 :: c277 :: c278 :: c279 :: c280 :: c281 :: c282 :: c283 :: c284 :: c285 :: c286 :: c287 :: c288 :: c289 :: c290 :: c291 :: c292 :: c293 :: c294 :: c295 :: c296 :: c297 :: c298 :: c299 :: c300 :: c301 :: c302 :: c303 :: c304 :: c305 :: c306 :: c307 :: c308 :: c309 :: c310 :: c311 :: c312 :: c313 :: c314 :: c315 :: c316 :: c317 :: c318 :: c319 :: c320 :: c321 :: c322 :: c323 :: c324 :: c325 :: c326 :: c327 :: c328 :: c329 :: c330 :: c331 :: c332 :: c333 :: c334 :: c335 :: c336 :: c337 :: c338 :: c339 :: c340 :: c341 :: c342 :: c343 :: c344 :: c345 :: c346 :: c347 :: c348 :: c349 :: c350 :: [])), []⟩ wr) := hexit
    have hnn := G.n_le
    have hmm := G.m_le
    clear hk h0 r0 hexit
    by_cases hlt : u < n
    · have cu := G.startAt hb (i := u) (by omega)
      have hs1 := G.mono hlt
      have hs2 := G.st_le (i := u + 1) (by omega)
      obtain ⟨lo, hlo⟩ : ∃ x, x = g.st u := ⟨_, rfl⟩
      obtain ⟨hi, hhi⟩ : ∃ x, x = g.st (u + 1) := ⟨_, rfl⟩
      have HLO : Hid (lo = g.st u) := hlo
      have HHI : Hid (hi = g.st (u + 1)) := hhi
      rw [← hlo] at cu hs1 hr
      rw [← hhi] at hs1 hs2
      clear hlo hhi
      go_wp2_with fail
      go_loopg [14] (hi - lo) (fun k x wr => ∃ e : Nat, lo ≤ e ∧ e ≤ hi ∧ x = .int .i64 (e : Int) ∧ k = hi - e ∧ Below w4.heap.size w4 wr ∧ Row wr gR 3 (n + 1) (i64 (R1 g e)))
      case atStart => exact ⟨lo, Nat.le_refl _, hs1, rfl, rfl, hb, hr⟩
      case round =>
        clear hb hr cu
        obtain ⟨e, he1, he2, rfl, hk2, hb, hr⟩ := hrel
        have HK2 : Hid (gk = hi - e) := hk2
        clear hk2
        have cu1 := G.startAt hb (i := u + 1) (by omega)
        rw [← HHI.out] at cu1
        by_cases hle : e < hi
        · obtain ⟨bt, ot, rfl, hbt, hto⟩ := G.tgts (by omega)
          obtain ⟨bk, ok', rfl, hbk, hkd⟩ := G.kinds (by omega)
          obtain ⟨x, kc0, hok⟩ := hkd e (by omega)
          have kc := (hb.cell (p := ⟨bk, ok' + e, none⟩) hbk).trans kc0
          have tc := (hb.cell (p := ⟨bt, ot + e, none⟩) hbt).trans (hto e (by omega))
          obtain ⟨t, ht⟩ : ∃ t, t = g.to e := ⟨_, rfl⟩
          have htn : t < n := by rw [ht]; exact G.to_lt (by omega)
          rw [← ht] at tc
          have HT : Hid (t = g.to e) := ht
          have HOK : Hid (g.ok e = !(bits .and .u8 x mask == 0)) := hok
          clear ht hto hkd hok kc0
          cases tb : (bits .and .u8 x mask != 0) with
          | false =>
            have OK : g.ok e = false := by rw [HOK.out]; exact tb
            have hr2 : Row wr gR 3 (n + 1) (i64 (R1 g (e + 1))) := hr.congr (fun j _ => by simp only [i64, R1_miss OK])
            clear OK hr
            go_wp2_with fail
            go_roundg (hi - (e + 1))
            case measure => rw [HK2.out]; omega
            case rel => exact ⟨e + 1, by omega, by omega, by go_num, rfl, hb, hr2⟩
          | true =>
            have OK : g.ok e = true := by rw [HOK.out]; exact tb
            have rc := hr.cell (i := t + 1) (by omega)
            have fc := hr.free (t + 1)
            have hle' := R1_le g e (t + 1)
            have hr2 := hr.setI (t + 1) (R1 g e (t + 1) + 1)
            have hr3 : Row (wr.setCell ⟨gR, t + 1, none⟩ (.int .i64 ((R1 g e (t + 1) + 1 : Nat) : Int))) gR 3 (n + 1) (i64 (R1 g (e + 1))) := hr2.congr (fun j _ => by simp only [i64, R1_hit OK, ← HT.out])
            have hb3 : Below w4.heap.size w4 (wr.setCell ⟨gR, t + 1, none⟩ (.int .i64 ((R1 g e (t + 1) + 1 : Nat) : Int))) := hb.setCell o1 _
            obtain ⟨y, hy⟩ : ∃ y, y = R1 g e (t + 1) := ⟨_, rfl⟩
            have rc' : wr.cell? ⟨gR, t + 1, none⟩ = some (.int .i64 (y : Int)) := by rw [hy]; exact rc
            rw [← hy] at hle' hr3 hb3
            rw [show ((y + 1 : Nat) : Int) = (y : Int) + 1 from by omega] at hr3 hb3
            clear OK hr hr2 hy rc hb
            go_wp2_with fail
            go_roundg (hi - (e + 1))
            case measure => rw [HK2.out]; omega
            case rel => exact ⟨e + 1, by omega, by omega, by go_num, rfl, hb3, hr3⟩
        · obtain rfl : e = hi := by omega
          clear cu1
          have cu1 := G.startAt hb (i := u + 1) (by omega)
          rw [← HHI.out] at cu1
          have hr2 : Row wr gR 3 (n + 1) (i64 (R1 g (g.st (u + 1)))) := by rw [← HHI.out]; exact hr
          go_wp2_with fail
          go_roundg (n - (u + 1))
          case measure => rw [HK.out]; omega
          case rel => exact ⟨u + 1, by omega, by go_num, rfl, hb, hr2⟩
    · obtain rfl : u = n := by omega
      have hr2 : Row wr gR 3 (u + 1) (i64 (R1 g m)) := by
        have e : g.st u = m := by have := G.wf.last; rw [G.gn] at this; exact this
        rw [← e]; exact hr
      go_wp2_with fail
      exact HE.out _ hb hr2 _ _ _ _ _ _ _ _ _ _ _ _ _ _ _ _ _ _ _ _ _ _ _ _ _ _ _ _ _ _ _ _ _ _ _ _ _ _ _ _
end Go.Proofs.Qxb6001346a
