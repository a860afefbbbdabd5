/-
  THE LAW 'the components' sizes partition the nodes': the walk.
-/
import Derived.Test.Qxb6001346aPost
import Derived.Deep.LoopGhost
import Derived.Deep.Cut
import Derived.Deep.OwnRows
set_option linter.all false
namespace Go.Proofs.Qxb6001346a
open Go.RowKit Tj

theorem zz17 (a0 : Option Addr) (l0 c0 : Nat) (a1 : Option Addr) (l1 c1 : Nat) (a2 : Option Addr) (l2 c2 : Nat) (x : Int) (w : World)
    (h0 : l0 ≤ maxLen) (h1 : l1 ≤ maxLen) (h2 : l2 ≤ maxLen) :
    Calls Try.prog 17 #[.slice a0 l0 c0, .slice a1 l1 c1, .slice a2 l2 c2, .int .u8 x] w fun e w' => (∃ b, e = .returned (.bool b)) ∧ w = w' := by
  unfold maxLen at h0 h1 h2
  go_enter Try.func17, Try.ntmps17
  go_wp2
  all_goals
    go_ret
    exact ⟨⟨_, rfl⟩, rfl⟩

/-- How many of the first k nodes lie in component c. -/
def cntK (comp : Nat → Nat) (k c : Nat) : Nat := cntTo (fun u => comp u == c) k
theorem cntK_step (comp : Nat → Nat) (k : Nat) : ∀ c, cntK comp (k + 1) c = upd (cntK comp k) (comp k) (cntK comp k (comp k) + 1) c := by
  intro c
  by_cases e : c = comp k
  · subst e; simp [cntK, cntTo, upd]
  · have : ¬ comp k = c := fun h => e h.symm
    simp [cntK, cntTo, upd, e, this]
theorem cntK_le (comp : Nat → Nat) (k c : Nat) : cntK comp k c ≤ k := cntTo_le _ _
theorem ints_cell {w : World} {base g n cap : Nat} {size : List Nat} (h : w.ownsRow base 21 1 (.slice (some ⟨g, 0, none⟩) n cap) n (ints size)) (i : Nat) (hi : i < n) (hn : size.length = n) : w.cell? ⟨g, i, none⟩ = some (.int .i32 ((size.getD i 0 : Nat) : Int)) := by
  rw [h.cellAt i (by omega)]
  simp [ints, List.getD_eq_getElem?_getD, hn, hi]

set_option maxRecDepth 100000 in
set_option maxHeartbeats 4000000 in
theorem sizes_walk (hZ : ZZSaid) (a0 : Option Addr) (l0 c0 : Nat) (z0 : List Int) (a1 : Option Addr) (l1 c1 : Nat) (z1 : List Int) (a2 : Option Addr) (l2 c2 : Nat) (z2 : List Int) (mask : Int) (w : World) (w0 : IsRowIn .i32 w a0 l0 c0 z0) (w1 : IsRowIn .i32 w a1 l1 c1 z1) (w2 : IsRowIn .u8 w a2 l2 c2 z2) :
    Calls Try.prog 4 #[.slice a0 l0 c0, .slice a1 l1 c1, .slice a2 l2 c2, .int .u8 mask] w fun e w' => e = .returned (.bool true) ∧ Below w.heap.size w w' := by
  have m0 := w0.le
  have m1 := w1.le
  have m2 := w2.le
  have s0 := w0.sin
  have s1 := w1.sin
  have s2 := w2.sin
  have r0 := w0.range
  have r1 := w1.range
  have S0 : Hid (SIn w .i32 a0 l0 (fun i => z0.getD i 0)) := s0
  have S1 : Hid (SIn w .i32 a1 l1 (fun i => z1.getD i 0)) := s1
  have S2 : Hid (SIn w .u8 a2 l2 (fun i => z2.getD i 0)) := s2
  have R0 : Hid (∀ i, -2147483648 ≤ z0.getD i 0 ∧ z0.getD i 0 ≤ 2147483647) := r0
  have R1 : Hid (∀ i, -2147483648 ≤ z1.getD i 0 ∧ z1.getD i 0 ≤ 2147483647) := r1
  have N0 : Hid (a0 = none → l0 = 0) := w0.nil
  have N1 : Hid (a1 = none → l1 = 0) := w1.nil
  have N2 : Hid (a2 = none → l2 = 0) := w2.nil
  clear s0 s1 s2 r0 r1 w0 w1 w2
  go_enter Try.func4, Try.ntmps4
  go_wp2_with fail
  refine (zz17 a0 l0 c0 a1 l1 c1 a2 l2 c2 mask w m0 m1 m2).mono ?_
  rintro e w' ⟨⟨b, rfl⟩, rfl⟩
  cases b with
  | false =>
    go_wp2_with fail
    go_ret
    exact ⟨rfl, Below.refl _ _⟩
  | true =>
  unfold maxLen at m0 m1 m2
  by_cases hL0 : 4097 < l0
  · go_wp2_with fail
    go_ret
    exact ⟨rfl, Below.refl _ _⟩
  by_cases hL1 : 4096 < l1
  · go_wp2_with fail
    go_ret
    exact ⟨rfl, Below.refl _ _⟩
  by_cases hL2 : 4096 < l2
  · go_wp2_with fail
    go_ret
    exact ⟨rfl, Below.refl _ _⟩
  go_wp2_with fail
  refine (graphFits_any a0 l0 c0 a1 l1 c1 a2 l2 c2 (fun i => z0.getD i 0) (fun i => z1.getD i 0) w (by omega) (by omega) (by omega) S0.out S1.out (fun i _ => R0.out i) (fun i _ => R1.out i)).mono ?_
  rintro e w' ⟨⟨b, rfl, hfit⟩, q, rfl⟩
  cases b with
  | false =>
    clear hfit
    go_wp2_with fail
    go_ret
    exact ⟨rfl, below_draw _ _⟩
  | true =>
  have FF := hfit rfl
  clear hfit
  obtain rfl : l2 = l1 := FF.len2
  go_wp2_with fail
  refine (cloneI32_any a0 l0 c0 (fun i => z0.getD i 0) _ (by omega) (S0.out.below (below_draw _ _)) N0.out).mono ?_
  rintro e w1 ⟨a0', c0', rfl, b1, S0'⟩
  have b1' : Below w.heap.size w w1 := (below_draw w q).trans b1
  have T1 := S1.out.below b1'
  have T2 := S2.out.below b1'
  clear b1
  go_wp2_with fail
  refine (cloneI32_any a1 l2 c1 (fun i => z1.getD i 0) _ (by omega) T1 N1.out).mono ?_
  rintro e w2 ⟨a1', c1', rfl, b2, S1'⟩
  have b2' : Below w.heap.size w w2 := b1'.trans (b2.mono b1'.size)
  have U0 := S0'.below b2
  have U2 := T2.below b2
  clear b2 T1 T2 S0' b1'
  go_wp2_with fail
  refine (cloneU8_any a2 l2 c2 (fun i => z2.getD i 0) _ (by omega) U2 N2.out).mono ?_
  rintro e w3 ⟨a2', c2', rfl, b3, S2'⟩
  have b3' : Below w.heap.size w w3 := b2'.trans (b3.mono b2'.size)
  have V0 := U0.below b3
  have V1 := S1'.below b3
  clear b3 U0 U2 S1' b2'
  go_wp2_with fail
  refine (hZ w3 l0 l2 a0' c0' a1' c1' a2' c2' _ _ _ mask FF V0 V1 S2').mono ?_
  rintro e w4 ⟨gM, vZ, comp, size, rfl, b4, hM, hO, hres⟩
  have b4' : Below w.heap.size w w4 := b3'.trans (b4.mono b3'.size)
  have X0 := V0.below b4
  have X1 := V1.below b4
  have X2 := S2'.below b4
  have hl0 := FF.len0
  obtain ⟨n, rfl⟩ : ∃ n, l0 = n + 1 := ⟨l0 - 1, by omega⟩
  obtain ⟨bs, os, e0, hbs, hst⟩ := X0 (by omega)
  subst e0
  have hnn : (((n + 1 - 1 : Nat) : Int) != ((n + 1 : Nat) : Int) - 1) = false := by simp
  have hgn : (mkG (n + 1) (fun i => z0.getD i 0) (fun i => z1.getD i 0) (fun i => z2.getD i 0) mask).n = n := rfl
  have HLT : Hid (∀ u, u < n → comp u < size.length) := fun u hu => hres.lt u hu
  have hlen : size.length ≤ n := hres.len
  have HCN : Hid (∀ c, c < size.length → size.getD c 0 = cntK comp n c ∧ 1 ≤ size.getD c 0) := fun c hc => hres.cnt c hc
  obtain ⟨aZ, cZ, hvz⟩ : ∃ a c, vZ = .slice a size.length c := by
    rcases hO.2 with ⟨h1, h2⟩ | ⟨g, cap, cur, h1, _⟩
    · exact ⟨none, 0, by rw [h1, h2]⟩
    · exact ⟨_, _, h1⟩
  subst hvz
  obtain ⟨k, hk⟩ : ∃ k, k = size.length := ⟨_, rfl⟩
  have HZ : Hid (0 < k → ∃ gZ, aZ = some ⟨gZ, 0, none⟩ ∧ gZ < w4.heap.size ∧ ∀ i, i < k → w4.cell? ⟨gZ, i, none⟩ = some (.int .i32 ((size.getD i 0 : Nat) : Int))) := by
    intro hk0
    rcases hO.2 with ⟨_, h2⟩ | ⟨g, cap, cur, h1, _, h3, _⟩
    · omega
    · cases h1
      exact ⟨g, rfl, (Array.getElem?_eq_some_iff.1 h3).1, fun i hi => ints_cell hO i (by omega) rfl⟩
  rw [← hk] at HLT HCN hlen ⊢
  have HM : Hid (Row w4 gM 21 n (fun i => .int .i32 ((comp i : Nat) : Int))) := hM
  have HB : Hid (Below w.heap.size w w4) := b4'
  have hnn' : n ≤ 4096 := by omega
  have hkn : decide ((n : Int) < (k : Int)) = false := by simp; omega
  have hkn2 : decide (n < k) = false := by simp; omega
  have mkI := run_make_row' (P := Try.prog) 22 21 (.int .i32 0) 4 Try.underlying22 Try.info21 rfl .i64 .i64 k (by omega) (by omega)
  clear hM hO b4' hZ hres hst X0 X1 X2 V0 V1 S2' FF S0 S1 S2 R0 R1 N0 N1 N2 b4 b3' hbs hgn hk
  go_wp2_with fail
  have hrow0 : Row (w4.alloc (.cells (madeCells #[.int .i32 0] k) 21)) w4.heap.size 21 k (fun c => .int .i32 ((cntK comp 0 c : Nat) : Int)) := by
    refine ⟨_, heap_alloc_new w4 _, fun i hi => ?_⟩
    rw [← Array.getElem?_toList, toList_madeCells_one]
    simp [List.getElem?_replicate, hi, cntK, cntTo]
  have hbel0 : Below w4.heap.size w4 (w4.alloc (.cells (madeCells #[.int .i32 0] k) 21)) := (Below.refl _ _).alloc (Nat.le_refl _) _
  go_loopg [13] n (fun gk x wr => ∃ u : Nat, u ≤ n ∧ x = .int .i64 (u : Int) ∧ gk = n - u ∧ Row wr w4.heap.size 21 k (fun c => .int .i32 ((cntK comp u c : Nat) : Int)) ∧ Below w4.heap.size w4 wr)
  case atStart => exact ⟨0, Nat.zero_le _, rfl, rfl, hrow0, hbel0⟩
  case round =>
    obtain ⟨u, hu, rfl, hk, hr, hb⟩ := hrel
    have HK : Hid (gk = n - u) := hk
    clear hk hrow0 hbel0 mkI
    by_cases hlt : u < n
    · have cm : wr.cell? ⟨gM, u, none⟩ = some (.int .i32 (comp u : Int)) := (hb.cell (p := ⟨gM, u, none⟩) HM.out.lt).trans (HM.out.cell hlt)
      have hck := HLT.out u hlt
      obtain ⟨c, hc⟩ : ∃ c, c = comp u := ⟨_, rfl⟩
      have HC : Hid (c = comp u) := hc
      rw [← hc] at cm hck
      have cc := hr.cell hck
      have fc := hr.free c
      have hcu := cntK_le comp u c
      have hr2 : Row (wr.setCell ⟨w4.heap.size, c, none⟩ (.int .i32 ((cntK comp u c : Int) + 1))) w4.heap.size 21 k (fun c => .int .i32 ((cntK comp (u + 1) c : Nat) : Int)) := by
        refine (hr.set (i := c) (.int .i32 ((cntK comp u c : Int) + 1))).congr (fun i _ => ?_)
        rw [cntK_step, ← hc]
        by_cases e : i = c
        · subst e; rw [upd_same, upd_same]; simp
        · rw [upd_ne _ _ e, upd_ne _ _ e]
      have hb2 : Below w4.heap.size w4 (wr.setCell ⟨w4.heap.size, c, none⟩ (.int .i32 ((cntK comp u c : Int) + 1))) := hb.setCell (Nat.le_refl _) _
      obtain ⟨x, hx⟩ : ∃ x, x = cntK comp u c := ⟨_, rfl⟩
      rw [← hx] at cc hcu hr2 hb2
      clear hc hx hr hb
      go_wp2_with fail
      go_roundg (n - (u + 1))
      case measure => rw [HK.out]; omega
      case rel => exact ⟨u + 1, by omega, by go_num, rfl, hr2, hb2⟩
    · obtain rfl : u = n := by omega
      have HR : Hid (Row wr w4.heap.size 21 k (fun c => .int .i32 ((cntK comp u c : Nat) : Int))) := hr
      have HB5 : Hid (Below w4.heap.size w4 wr) := hb
      clear hr hb
      go_wp2_with fail
      go_loopg [15] k (fun gk x wx => ∃ c q : Nat, c ≤ k ∧ x = .int .i64 (c : Int) ∧ gk = k - c ∧ wx = wr.drewN q)
      case atStart => exact ⟨0, 0, Nat.zero_le _, rfl, rfl, rfl⟩
      case round =>
        obtain ⟨c, q5, hc, rfl, hk2, rfl⟩ := hrel
        have HK2 : Hid (gk = k - c) := hk2
        clear hk2
        by_cases hlc : c < k
        · obtain ⟨gZ, e1, e2, e3⟩ := HZ.out (by omega)
          subst e1
          obtain ⟨h1, h2⟩ := HCN.out c hlc
          have cz : wr.cell? ⟨gZ, c, none⟩ = some (.int .i32 ((size.getD c 0 : Nat) : Int)) := (HB5.out.cell (p := ⟨gZ, c, none⟩) e2).trans (e3 c hlc)
          have cc := HR.out.cell hlc
          simp only [← h1] at cc
          obtain ⟨v, hv⟩ : ∃ v, v = size.getD c 0 := ⟨_, rfl⟩
          rw [← hv] at cz cc h2
          clear hv e2 e3 h1
          have d1 : decide ((v : Int) < 1) = false := by simp; omega
          have q1 : (0 : Int) ≤ (c : Int) := by omega
          have q2 : (c : Int) < (k : Int) := by omega
          have d2 : ((v : Int) != (v : Int)) = false := by simp
          go_upto_region 25 with fail
          go_quiet (fail)
          go_wp2_with fail
          go_roundg (k - (c + 1))
          case measure => rw [HK2.out]; omega
          case rel => exact ⟨c + 1, _, by omega, by go_num, rfl, rfl⟩
        · go_wp2_with fail
          go_ret
          exact ⟨rfl, HB.out.trans ((HB5.out.trans ((below_draw wr _).mono HB5.out.size)).mono HB.out.size)⟩
end Go.Proofs.Qxb6001346a
