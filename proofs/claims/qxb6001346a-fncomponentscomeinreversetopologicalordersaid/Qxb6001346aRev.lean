/-
  THE LAW 'components come in reverse topological order': the walk.
-/
import Derived.Test.Qxb6001346aPost
import Derived.Deep.LoopGhost
import Derived.Deep.Cut
set_option linter.all false
namespace Go.Proofs.Qxb6001346a
open Go.RowKit Tj

theorem zz18 (a0 : Option Addr) (l0 c0 : Nat) (a1 : Option Addr) (l1 c1 : Nat) (a2 : Option Addr) (l2 c2 : Nat) (x : Int) (w : World)
    (h0 : l0 ≤ maxLen) (h1 : l1 ≤ maxLen) (h2 : l2 ≤ maxLen) :
    Calls Try.prog 18 #[.slice a0 l0 c0, .slice a1 l1 c1, .slice a2 l2 c2, .int .u8 x] w fun e w' => (∃ b, e = .returned (.bool b)) ∧ w = w' := by
  unfold maxLen at h0 h1 h2
  go_enter Try.func18, Try.ntmps18
  go_wp2
  all_goals
    go_ret
    exact ⟨⟨_, rfl⟩, rfl⟩

set_option maxRecDepth 100000 in
set_option maxHeartbeats 4000000 in
theorem rev_walk (hZ : ZZSaid) (a0 : Option Addr) (l0 c0 : Nat) (z0 : List Int) (a1 : Option Addr) (l1 c1 : Nat) (z1 : List Int) (a2 : Option Addr) (l2 c2 : Nat) (z2 : List Int) (mask : Int) (w : World) (w0 : IsRowIn .i32 w a0 l0 c0 z0) (w1 : IsRowIn .i32 w a1 l1 c1 z1) (w2 : IsRowIn .u8 w a2 l2 c2 z2) :
    Calls Try.prog 5 #[.slice a0 l0 c0, .slice a1 l1 c1, .slice a2 l2 c2, .int .u8 mask] w fun e w' => e = .returned (.bool true) ∧ Below w.heap.size w w' := by
  have m0 := w0.le
  have m1 := w1.le
  have m2 := w2.le
  have s0 := w0.sin
  have s1 := w1.sin
  have s2 := w2.sin
  have r0 := w0.range
  have r1 := w1.range
  have S0 : Hid (SIn w .i32 a0 l0 (fun i => z0.getD i 0)) := s0
  have S1 : Hid (SIn w .i32 a1 l1 (fun i => z1.getD i 0)) := s1
  have S2 : Hid (SIn w .u8 a2 l2 (fun i => z2.getD i 0)) := s2
  have R0 : Hid (∀ i, -2147483648 ≤ z0.getD i 0 ∧ z0.getD i 0 ≤ 2147483647) := r0
  have R1 : Hid (∀ i, -2147483648 ≤ z1.getD i 0 ∧ z1.getD i 0 ≤ 2147483647) := r1
  have N0 : Hid (a0 = none → l0 = 0) := w0.nil
  have N1 : Hid (a1 = none → l1 = 0) := w1.nil
  have N2 : Hid (a2 = none → l2 = 0) := w2.nil
  clear s0 s1 s2 r0 r1 w0 w1 w2
  go_enter Try.func5, Try.ntmps5
  go_wp2_with fail
  refine (zz18 a0 l0 c0 a1 l1 c1 a2 l2 c2 mask w m0 m1 m2).mono ?_
  rintro e w' ⟨⟨b, rfl⟩, rfl⟩
  cases b with
  | false =>
    go_wp2_with fail
    go_ret
    exact ⟨rfl, Below.refl _ _⟩
  | true =>
  unfold maxLen at m0 m1 m2
  by_cases hL0 : 4097 < l0
  · go_wp2_with fail
    go_ret
    exact ⟨rfl, Below.refl _ _⟩
  by_cases hL1 : 4096 < l1
  · go_wp2_with fail
    go_ret
    exact ⟨rfl, Below.refl _ _⟩
  by_cases hL2 : 4096 < l2
  · go_wp2_with fail
    go_ret
    exact ⟨rfl, Below.refl _ _⟩
  go_wp2_with fail
  refine (graphFits_any a0 l0 c0 a1 l1 c1 a2 l2 c2 (fun i => z0.getD i 0) (fun i => z1.getD i 0) w (by omega) (by omega) (by omega) S0.out S1.out (fun i _ => R0.out i) (fun i _ => R1.out i)).mono ?_
  rintro e w' ⟨⟨b, rfl, hfit⟩, q, rfl⟩
  cases b with
  | false =>
    clear hfit
    go_wp2_with fail
    go_ret
    exact ⟨rfl, below_draw _ _⟩
  | true =>
  have FF := hfit rfl
  clear hfit
  obtain rfl : l2 = l1 := FF.len2
  go_wp2_with fail
  refine (cloneI32_any a0 l0 c0 (fun i => z0.getD i 0) _ (by omega) (S0.out.below (below_draw _ _)) N0.out).mono ?_
  rintro e w1 ⟨a0', c0', rfl, b1, S0'⟩
  have b1' : Below w.heap.size w w1 := (below_draw w q).trans b1
  have T1 := S1.out.below b1'
  have T2 := S2.out.below b1'
  clear b1
  go_wp2_with fail
  refine (cloneI32_any a1 l2 c1 (fun i => z1.getD i 0) _ (by omega) T1 N1.out).mono ?_
  rintro e w2 ⟨a1', c1', rfl, b2, S1'⟩
  have b2' : Below w.heap.size w w2 := b1'.trans (b2.mono b1'.size)
  have U0 := S0'.below b2
  have U2 := T2.below b2
  clear b2 T1 T2 S0' b1'
  go_wp2_with fail
  refine (cloneU8_any a2 l2 c2 (fun i => z2.getD i 0) _ (by omega) U2 N2.out).mono ?_
  rintro e w3 ⟨a2', c2', rfl, b3, S2'⟩
  have b3' : Below w.heap.size w w3 := b2'.trans (b3.mono b2'.size)
  have V0 := U0.below b3
  have V1 := S1'.below b3
  clear b3 U0 U2 S1' b2'
  go_wp2_with fail
  refine (hZ w3 l0 l2 a0' c0' a1' c1' a2' c2' _ _ _ mask FF V0 V1 S2').mono ?_
  rintro e w4 ⟨gM, vZ, comp, size, rfl, b4, hM, hO, hres⟩
  have b4' : Below w.heap.size w w4 := b3'.trans (b4.mono b3'.size)
  have X0 := V0.below b4
  have X1 := V1.below b4
  have X2 := S2'.below b4
  have hl0 := FF.len0
  obtain ⟨n, rfl⟩ : ∃ n, l0 = n + 1 := ⟨l0 - 1, by omega⟩
  obtain ⟨bs, os, e0, hbs, hst⟩ := X0 (by omega)
  subst e0
  have hnn : (((n + 1 - 1 : Nat) : Int) != ((n + 1 : Nat) : Int) - 1) = false := by simp
  obtain ⟨g, hg⟩ : ∃ g, g = mkG (n + 1) (fun i => z0.getD i 0) (fun i => z1.getD i 0) (fun i => z2.getD i 0) mask := ⟨_, rfl⟩
  have hwf : g.Wf l2 := by rw [hg]; exact FF.wf _ _
  have hgn : g.n = n := by rw [hg]; rfl
  have hres' : Res g comp size := by rw [hg]; exact hres
  have hst' : ∀ i, i < n + 1 → w4.cell? ⟨bs, os + i, none⟩ = some (.int .i32 ((g.st i : Nat) : Int)) := by
    intro i hi
    rw [hst i hi, hg]
    simp only [mkG]
    rw [← FF.st_eq hi]
  have hto' : 0 < l2 → ∃ bt ot, a1' = some ⟨bt, ot, none⟩ ∧ ∀ e, e < l2 → w4.cell? ⟨bt, ot + e, none⟩ = some (.int .i32 ((g.to e : Nat) : Int)) := by
    intro hl
    obtain ⟨bt, ot, e1, _, e3⟩ := X1 hl
    refine ⟨bt, ot, e1, fun e he => ?_⟩
    rw [e3 e he, hg]
    simp only [mkG]
    rw [← FF.to_eq he]
  have hkd' : 0 < l2 → ∃ bk ok', a2' = some ⟨bk, ok', none⟩ ∧ ∀ e, e < l2 → ∃ x : Int, w4.cell? ⟨bk, ok' + e, none⟩ = some (.int .u8 x) ∧ g.ok e = !(bits .and .u8 x mask == 0) := by
    intro hl
    obtain ⟨bk, ok', e1, _, e3⟩ := X2 hl
    refine ⟨bk, ok', e1, fun e he => ⟨_, e3 e he, ?_⟩⟩
    rw [hg]
    rfl
  have hl2 := FF.len1
  have HRES : Hid (Res g comp size) := hres'
  have HWF : Hid (g.Wf l2) := hwf
  have HGN : Hid (g.n = n) := hgn
  have HST : Hid (∀ i, i < n + 1 → w4.cell? ⟨bs, os + i, none⟩ = some (.int .i32 ((g.st i : Nat) : Int))) := hst'
  have HTO : Hid (0 < l2 → ∃ bt ot, a1' = some ⟨bt, ot, none⟩ ∧ ∀ e, e < l2 → w4.cell? ⟨bt, ot + e, none⟩ = some (.int .i32 ((g.to e : Nat) : Int))) := hto'
  have HKD : Hid (0 < l2 → ∃ bk ok', a2' = some ⟨bk, ok', none⟩ ∧ ∀ e, e < l2 → ∃ x : Int, w4.cell? ⟨bk, ok' + e, none⟩ = some (.int .u8 x) ∧ g.ok e = !(bits .and .u8 x mask == 0)) := hkd'
  clear hres' hwf hgn hst' hto' hkd' hres hst X0 X1 X2 V0 V1 S2' FF S0 S1 S2 R0 R1 N0 N1 N2 hg b4 b3' hbs
  have HM : Hid (Row w4 gM 21 n (fun i => .int .i32 ((comp i : Nat) : Int))) := hM
  have HB : Hid (Below w.heap.size w w4) := b4'
  have HCL : Hid (∀ i, i < n → comp i ≤ 4096) := fun i hi => by have h1 := HRES.out.lt i (by rw [HGN.out]; exact hi); have h2 := HRES.out.len; have h3 := HGN.out; omega
  clear hM hO b4' hZ
  go_wp2_with fail
  go_loopg [12, 13] n (fun k x _ wr => ∃ u q' : Nat, u ≤ n ∧ x = .int .i64 (u : Int) ∧ k = n - u ∧ wr = w4.drewN q')
  case atStart => exact ⟨0, 0, Nat.zero_le _, rfl, rfl, rfl⟩
  case round =>
    obtain ⟨u, q', hu, rfl, hk, rfl⟩ := hrel
    have HK : Hid (gk = n - u) := hk
    clear hk
    by_cases hlt : u < n
    · have cu := HST.out u (by omega)
      have cu1 := HST.out (u + 1) (by omega)
      have hs1 : g.st u ≤ g.st (u + 1) := HWF.out.mono u (by rw [HGN.out]; exact hlt)
      have hs2 : g.st (u + 1) ≤ l2 := HWF.out.st_le (by rw [HGN.out]; omega)
      obtain ⟨lo, hlo⟩ : ∃ x, x = g.st u := ⟨_, rfl⟩
      obtain ⟨hi, hhi⟩ : ∃ x, x = g.st (u + 1) := ⟨_, rfl⟩
      have HLO : Hid (lo = g.st u) := hlo
      have HHI : Hid (hi = g.st (u + 1)) := hhi
      rw [← hlo] at cu hs1
      rw [← hhi] at cu1 hs1 hs2
      clear hlo hhi
      go_wp2_with fail
      go_loopg [13] (hi - lo) (fun k x wr => ∃ e q' : Nat, lo ≤ e ∧ e ≤ hi ∧ x = .int .i64 (e : Int) ∧ k = hi - e ∧ wr = w4.drewN q')
      case atStart => exact ⟨lo, q', Nat.le_refl _, hs1, rfl, rfl, rfl⟩
      case round =>
        obtain ⟨e, q2, he1, he2, rfl, hk2, rfl⟩ := hrel
        have HK2 : Hid (gk = hi - e) := hk2
        clear hk2
        by_cases hle : e < hi
        · obtain ⟨bt, ot, rfl, hto⟩ := HTO.out (by omega)
          obtain ⟨bk, ok', rfl, hkd⟩ := HKD.out (by omega)
          obtain ⟨x, kc, hok⟩ := hkd e (by omega)
          have tc := hto e (by omega)
          obtain ⟨t, ht⟩ : ∃ t, t = g.to e := ⟨_, rfl⟩
          have HT : Hid (t = g.to e) := ht
          have htn : t < n := by rw [ht, ← HGN.out]; exact HWF.out.tgt e (by omega)
          rw [← ht] at tc
          have HOK : Hid (g.ok e = !(bits .and .u8 x mask == 0)) := hok
          clear ht hto hkd hok
          have q1 : (0 : Int) ≤ (u : Int) := by omega
          have q2' : (u : Int) < (n : Int) := by omega
          have q3 : (0 : Int) ≤ (t : Int) := by omega
          have q4 : (t : Int) < (n : Int) := by omega
          have q5 : (0 : Int) ≤ (e : Int) := by omega
          have q6 : (e : Int) < (l2 : Int) := by omega
          cases tb : (bits .and .u8 x mask == 0) with
          | true =>
            go_wp2_with fail
            go_roundg (hi - (e + 1))
            case measure => rw [HK2.out]; omega
            case rel => exact ⟨e + 1, _, by omega, by omega, by go_num, rfl, rfl⟩
          | false =>
            have hle2 : comp t ≤ comp u := by
              rw [HT.out]
              exact HRES.out.edge u _ ⟨by rw [HGN.out]; exact hlt, e, by rw [← HLO.out]; exact he1, by rw [← HHI.out]; exact hle, by rw [HOK.out, tb]; rfl, rfl⟩
            have cm1 := HM.out.cell hlt
            have cm2 := HM.out.cell htn
            have hd : decide ((comp u : Int) < (comp t : Int)) = false := by simp; omega
            have hd' : ¬ (comp u : Int) < (comp t : Int) := by omega
            go_upto_region 21 with fail
            go_quiet (fail)
            go_wp2_with fail
            go_roundg (hi - (e + 1))
            case measure => rw [HK2.out]; omega
            case rel => exact ⟨e + 1, _, by omega, by omega, by go_num, rfl, rfl⟩
        · go_wp2_with fail
          go_roundg (n - (u + 1))
          case measure => rw [HK.out]; omega
          case rel => exact ⟨u + 1, _, by omega, by go_num, rfl, rfl⟩
    · go_wp2_with fail
      go_ret
      exact ⟨rfl, HB.out.trans ((below_draw w4 _).mono HB.out.size)⟩
end Go.Proofs.Qxb6001346a
