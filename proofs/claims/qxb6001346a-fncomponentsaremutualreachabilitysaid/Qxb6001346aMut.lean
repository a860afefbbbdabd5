/-
  THE LAW 'components are mutual reachability': the walk.
-/
import Derived.Test.Qxb6001346aMutA
import Derived.Test.Qxb6001346aMutB
import Derived.Test.Qxb6001346aMutC
import Derived.Test.Qxb6001346aMutD
import Derived.Test.Qxb6001346aMutI
set_option linter.all false
namespace Go.Proofs.Qxb6001346a
open Go.RowKit Tj

theorem Try.info3 : (Try.prog.info? 3).map (fun i => (i.zero, i.size, i.bytes)) = some (some (.int .i64 0), 1, 8) := by kernel_rfl
theorem Try.info4m : (Try.prog.info? 4).map (fun i => (i.zero, i.size, i.bytes)) = some (some (.bool false), 1, 1) := by kernel_rfl
theorem Row.ofMade {w : World} {n : Nat} {e : TypeId} {z : Value} : Row (w.alloc (.cells (madeCells #[z] n) e)) w.heap.size e n (fun _ => z) := by
  refine ⟨_, heap_alloc_new w _, fun i hi => ?_⟩
  rw [← Array.getElem?_toList, toList_madeCells_one]
  simp [List.getElem?_replicate, hi]

theorem zz12 (a0 : Option Addr) (l0 c0 : Nat) (a1 : Option Addr) (l1 c1 : Nat) (a2 : Option Addr) (l2 c2 : Nat) (x : Int) (w : World)
    (h0 : l0 ≤ maxLen) (h1 : l1 ≤ maxLen) (h2 : l2 ≤ maxLen) :
    Calls Try.prog 12 #[.slice a0 l0 c0, .slice a1 l1 c1, .slice a2 l2 c2, .int .u8 x] w fun e w' => (∃ b, e = .returned (.bool b)) ∧ w = w' := by
  unfold maxLen at h0 h1 h2
  go_enter Try.func12, Try.ntmps12
  go_wp2
  all_goals
    go_ret
    exact ⟨⟨_, rfl⟩, rfl⟩

set_option maxRecDepth 1000000 in
set_option maxHeartbeats 8000000 in
theorem mut_walk (hZ : ZZSaid) (a0 : Option Addr) (l0 c0 : Nat) (z0 : List Int) (a1 : Option Addr) (l1 c1 : Nat) (z1 : List Int) (a2 : Option Addr) (l2 c2 : Nat) (z2 : List Int) (mask : Int) (w : World) (w0 : IsRowIn .i32 w a0 l0 c0 z0) (w1 : IsRowIn .i32 w a1 l1 c1 z1) (w2 : IsRowIn .u8 w a2 l2 c2 z2) :
    Calls Try.prog 3 #[.slice a0 l0 c0, .slice a1 l1 c1, .slice a2 l2 c2, .int .u8 mask] w fun e w' => e = .returned (.bool true) ∧ Below w.heap.size w w' := by
  have m0 := w0.le
  have m1 := w1.le
  have m2 := w2.le
  have s0 := w0.sin
  have s1 := w1.sin
  have s2 := w2.sin
  have r0 := w0.range
  have r1 := w1.range
  have S0 : Hid (SIn w .i32 a0 l0 (fun i => z0.getD i 0)) := s0
  have S1 : Hid (SIn w .i32 a1 l1 (fun i => z1.getD i 0)) := s1
  have S2 : Hid (SIn w .u8 a2 l2 (fun i => z2.getD i 0)) := s2
  have R0 : Hid (∀ i, -2147483648 ≤ z0.getD i 0 ∧ z0.getD i 0 ≤ 2147483647) := r0
  have R1 : Hid (∀ i, -2147483648 ≤ z1.getD i 0 ∧ z1.getD i 0 ≤ 2147483647) := r1
  have N0 : Hid (a0 = none → l0 = 0) := w0.nil
  have N1 : Hid (a1 = none → l1 = 0) := w1.nil
  have N2 : Hid (a2 = none → l2 = 0) := w2.nil
  clear s0 s1 s2 r0 r1 w0 w1 w2
  go_enter Try.func3, Try.ntmps3
  go_wp2_with fail
  refine (zz12 a0 l0 c0 a1 l1 c1 a2 l2 c2 mask w m0 m1 m2).mono ?_
  rintro e w' ⟨⟨b, rfl⟩, rfl⟩
  cases b with
  | false =>
    go_wp2_with fail
    go_ret
    exact ⟨rfl, Below.refl _ _⟩
  | true =>
  unfold maxLen at m0 m1 m2
  by_cases hL0 : 4097 < l0
  · go_wp2_with fail
    go_ret
    exact ⟨rfl, Below.refl _ _⟩
  by_cases hL1 : 4096 < l1
  · go_wp2_with fail
    go_ret
    exact ⟨rfl, Below.refl _ _⟩
  by_cases hL2 : 4096 < l2
  · go_wp2_with fail
    go_ret
    exact ⟨rfl, Below.refl _ _⟩
  go_wp2_with fail
  refine (graphFits_any a0 l0 c0 a1 l1 c1 a2 l2 c2 (fun i => z0.getD i 0) (fun i => z1.getD i 0) w (by omega) (by omega) (by omega) S0.out S1.out (fun i _ => R0.out i) (fun i _ => R1.out i)).mono ?_
  rintro e w' ⟨⟨b, rfl, hfit⟩, q, rfl⟩
  cases b with
  | false =>
    clear hfit
    go_wp2_with fail
    go_ret
    exact ⟨rfl, below_draw _ _⟩
  | true =>
  have FF := hfit rfl
  clear hfit
  obtain rfl : l2 = l1 := FF.len2
  go_wp2_with fail
  refine (cloneI32_any a0 l0 c0 (fun i => z0.getD i 0) _ (by omega) (S0.out.below (below_draw _ _)) N0.out).mono ?_
  rintro e w1 ⟨a0', c0', rfl, b1, S0'⟩
  have b1' : Below w.heap.size w w1 := (below_draw w q).trans b1
  have T1 := S1.out.below b1'
  have T2 := S2.out.below b1'
  clear b1
  go_wp2_with fail
  refine (cloneI32_any a1 l2 c1 (fun i => z1.getD i 0) _ (by omega) T1 N1.out).mono ?_
  rintro e w2 ⟨a1', c1', rfl, b2, S1'⟩
  have b2' : Below w.heap.size w w2 := b1'.trans (b2.mono b1'.size)
  have U0 := S0'.below b2
  have U2 := T2.below b2
  clear b2 T1 T2 S0' b1'
  go_wp2_with fail
  refine (cloneU8_any a2 l2 c2 (fun i => z2.getD i 0) _ (by omega) U2 N2.out).mono ?_
  rintro e w3 ⟨a2', c2', rfl, b3, S2'⟩
  have b3' : Below w.heap.size w w3 := b2'.trans (b3.mono b2'.size)
  have V0 := U0.below b3
  have V1 := S1'.below b3
  clear b3 U0 U2 S1' b2'
  go_wp2_with fail
  refine (hZ w3 l0 l2 a0' c0' a1' c1' a2' c2' _ _ _ mask FF V0 V1 S2').mono ?_
  rintro e w4 ⟨gM, vZ, comp, size, rfl, b4, hM, hO, hres⟩
  have b4' : Below w.heap.size w w4 := b3'.trans (b4.mono b3'.size)
  have X0 := V0.below b4
  have X1 := V1.below b4
  have X2 := S2'.below b4
  have hl0 := FF.len0
  obtain ⟨n, rfl⟩ : ∃ n, l0 = n + 1 := ⟨l0 - 1, by omega⟩
  obtain ⟨bs, os, e0, hbs, hst⟩ := X0 (by omega)
  subst e0
  have hnn : (((n + 1 - 1 : Nat) : Int) != ((n + 1 : Nat) : Int) - 1) = false := by simp
  obtain ⟨g, hg⟩ : ∃ g, g = mkG (n + 1) (fun i => z0.getD i 0) (fun i => z1.getD i 0) (fun i => z2.getD i 0) mask := ⟨_, rfl⟩
  have hres' : Res g comp size := by rw [hg]; exact hres
  have G : MG w4 g n l2 bs os a1' a2' mask := {
    n_le := by omega
    m_le := FF.len1
    gn := by rw [hg]; rfl
    wf := by rw [hg]; exact FF.wf _ _
    zero := by rw [hg]; simp only [mkG]; have := FF.zero; omega
    bs_lt := hbs
    start := by
      intro i hi
      rw [hst i hi, hg]
      simp only [mkG]
      rw [← FF.st_eq hi]
    tgts := by
      intro hl
      obtain ⟨bt, ot, e1, e2, e3⟩ := X1 hl
      refine ⟨bt, ot, e1, e2, fun e he => ?_⟩
      rw [e3 e he, hg]
      simp only [mkG]
      rw [← FF.to_eq he]
    kinds := by
      intro hl
      obtain ⟨bk, ok', e1, e2, e3⟩ := X2 hl
      refine ⟨bk, ok', e1, e2, fun e he => ⟨_, e3 e he, ?_⟩⟩
      rw [hg]
      rfl }
  have HRES : Hid (Res g comp size) := hres'
  have HB : Hid (Below w.heap.size w w4) := b4'
  have hn4 := G.n_le
  have hm4 := G.m_le
  have mk1 := run_make_row' (P := Try.prog) 30 3 (.int .i64 0) 8 Try.underlying30 Try.info3 rfl .i64 .i64 (n + 1) (by omega) (by omega)
  rw [show ((n + 1 : Nat) : Int) = (n : Int) + 1 from by omega] at mk1
  have mk2 := run_make_row' (P := Try.prog) 30 3 (.int .i64 0) 8 Try.underlying30 Try.info3 rfl .i64 .i64 n (by omega) (by omega)
  have mk3 := run_make_row' (P := Try.prog) 31 4 (.bool false) 1 Try.underlying31 Try.info4m rfl .i64 .i64 n (by omega) (by omega)
  clear hres hres' hst X0 X1 X2 V0 V1 S2' FF S0 S1 S2 R0 R1 N0 N1 N2 hg b4 b3' hbs hZ b4' hO
  go_wp2_with fail
  refine mutA G (Nat.le_refl _) _ ?_ ((Below.refl _ _).alloc (Nat.le_refl _) _) (Row.ofMade.congr (fun j _ => by simp only [i64, R1_zero]; rfl))
  intro w5 hb5 hr5 a_13 a_14 a_84 a_85 a_86 a_87 a_88 a_89 a_90 a_91 a_92 a_93 a_94 a_95 a_96 a_97 a_98 a_99 a_100 a_101 a_102 a_103 a_104 a_105 a_106 a_107 a_108 a_109 a_110 a_111 a_112 a_113 a_114 a_115 a_116 a_117 a_118 a_119 a_120 a_121
  go_wp2_with fail
  refine mutB G (Nat.le_refl _) _ ?_ hb5 hr5
  intro w6 hb6 hr6 b_15 b_122 b_123 b_124 b_125 b_126 b_127 b_128 b_129 b_130 b_131 b_132 b_133 b_134 b_135 b_136 b_137
  clear hb5 hr5
  obtain ⟨p, hp⟩ : ∃ p, p = Tj.pre g l2 n := ⟨_, rfl⟩
  have HP : Hid (p = Tj.pre g l2 n) := hp
  have hpm : p ≤ 4096 := by rw [hp]; have := pre_le_m g l2 n; omega
  have cp : w6.cell? ⟨w4.heap.size, n, none⟩ = some (.int .i64 (p : Int)) := by rw [hp]; exact hr6.cell (i := n) (by omega)
  have mk4 := run_make_row' (P := Try.prog) 30 3 (.int .i64 0) 8 Try.underlying30 Try.info3 rfl .i64 .i64 p (by omega) (by omega)
  have hlt6 : w4.heap.size < w6.heap.size := hr6.lt
  clear hp
  go_wp2_with fail
  have hb7 : Below w4.heap.size w4 ((w6.alloc (.cells (madeCells #[.int .i64 0] p) 3)).alloc (.cells (madeCells #[.int .i64 0] n) 3)) := (hb6.alloc (by omega) _).alloc (by simp; omega) _
  have hr7 := (hr6.alloc (.cells (madeCells #[.int .i64 0] p) 3)).alloc (.cells (madeCells #[.int .i64 0] n) 3)
  have hF7 : Row ((w6.alloc (.cells (madeCells #[.int .i64 0] p) 3)).alloc (.cells (madeCells #[.int .i64 0] n) 3)) w6.heap.size 3 p (i64 (fun _ => 0)) := (Row.ofMade.alloc _).congr (fun j _ => rfl)
  have hL7 : Row ((w6.alloc (.cells (madeCells #[.int .i64 0] p) 3)).alloc (.cells (madeCells #[.int .i64 0] n) 3)) (w6.heap.size + 1) 3 n (i64 (fun _ => 0)) := by
    have := (Row.ofMade (w := w6.alloc (.cells (madeCells #[.int .i64 0] p) 3)) (n := n) (e := 3) (z := .int .i64 0))
    simp at this
    exact this.congr (fun j _ => rfl)
  refine mutC G (Nat.le_refl _) hlt6 (Nat.lt_succ_self _) _ _ _ ?_ hb7 hr7 hF7 hL7
  intro w8 hb8 hr8 hF8 hL8 x_18 x_145 x_146 x_147 x_148 x_149 x_150 x_151 x_152 x_153 x_154 x_155 x_156
  clear hb7 hr7 hF7 hL7 hb6 hr6 cp mk4
  go_wp2_with fail
  refine mutD G (Nat.le_refl _) hlt6 (Nat.lt_succ_self _) HP.out _ ?_ hb8 hr8 _ hF8 hL8
  intro w9 rf hb9 hr9 hF9 hld d_19 d_20 d_21 d_157 d_158 d_159 d_160 d_161 d_162 d_163 d_164 d_165 d_166 d_167 d_168 d_169 d_170 d_171 d_172 d_173 d_174 d_175 d_176 d_177 d_178 d_179 d_180 d_181 d_182 d_183 d_184 d_185 d_186 d_187 d_188 d_189 d_190 d_191 d_192 d_193 d_194 d_195 d_196 d_197 d_198 d_199 d_200 d_201
  clear hb8 hr8 hF8 hL8
  have hlt9 : w6.heap.size < w9.heap.size := hF9.lt
  go_wp2_with fail
  have h10 : WS w4 (((w9.alloc (.cells (madeCells #[.bool false] n) 4)).alloc (.cells (madeCells #[.bool false] n) 4)).alloc (.cells (madeCells #[.int .i64 0] n) 3)) n p w4.heap.size w6.heap.size w9.heap.size (w9.heap.size + 1) (w9.heap.size + 1 + 1) (Tj.pre g l2) rf (fun _ => false) (fun _ => false) (fun _ => 0) := {
    below := ((hb9.alloc (by omega) _).alloc (by simp; omega) _).alloc (by simp; omega) _
    rR := ((hr9.alloc _).alloc _).alloc _
    rF := ((hF9.alloc _).alloc _).alloc _
    rA := ((Row.ofMade.alloc _).alloc _).congr (fun j _ => rfl)
    rB := by
      have := (Row.ofMade (w := w9.alloc (.cells (madeCells #[.bool false] n) 4)) (n := n) (e := 4) (z := .bool false)).alloc (.cells (madeCells #[.int .i64 0] n) 3)
      simp at this
      exact this.congr (fun j _ => rfl)
    rQ := by
      have := (Row.ofMade (w := (w9.alloc (.cells (madeCells #[.bool false] n) 4)).alloc (.cells (madeCells #[.bool false] n) 4)) (n := n) (e := 3) (z := .int .i64 0))
      simp at this
      exact this.congr (fun j _ => rfl)
    o1 := Nat.le_refl _
    o2 := hlt6
    o3 := hlt9
    o4 := Nat.lt_succ_self _
    o5 := Nat.lt_succ_self _ }
  refine mutI G comp hM HRES.out _ rf HP.out hld ?_ _ _ _ h10
  intro w11 hb11 e_8 e_25 e_26 e_27 e_28 e_29 e_30 e_31 e_32 e_33 e_34 e_35 e_208 e_209 e_210 e_211 e_212 e_213 e_214 e_215 e_216 e_217 e_218 e_219 e_220 e_221 e_222 e_223 e_224 e_225 e_226 e_227 e_228 e_229 e_230 e_231 e_232 e_233 e_234 e_235 e_236 e_237 e_238 e_239 e_240 e_241 e_242 e_243 e_244 e_245 e_246 e_247 e_248 e_249 e_250 e_251 e_252 e_253 e_254 e_255 e_256 e_257 e_258 e_259 e_260 e_261 e_262 e_263 e_264 e_265 e_266 e_267 e_268 e_269 e_270 e_271 e_272 e_273 e_274 e_275 e_276 e_277 e_278 e_279 e_280 e_281 e_282 e_283 e_284 e_285 e_286 e_287 e_288 e_289 e_290 e_291 e_292 e_293 e_294 e_295 e_296 e_297 e_298 e_299 e_300 e_301 e_302 e_303 e_304 e_305 e_306 e_307 e_308 e_309 e_310 e_311 e_312 e_313 e_314 e_315 e_316 e_317 e_318 e_319 e_320 e_321 e_322 e_323 e_324 e_325 e_326 e_327 e_328 e_329 e_330 e_331 e_332 e_333 e_334 e_335 e_336 e_337 e_338 e_339 e_340 e_341 e_342 e_343 e_344 e_345 e_346 e_347 e_348 e_349 e_350
  clear h10 hb9 hr9 hF9
  go_wp2_with fail
  go_ret
  exact ⟨rfl, HB.out.trans (hb11.mono HB.out.size)⟩
end Go.Proofs.Qxb6001346a
