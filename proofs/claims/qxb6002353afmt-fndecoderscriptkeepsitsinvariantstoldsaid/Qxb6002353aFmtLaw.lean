/-
  The law's walk.
-/
import Derived.Test.Qxb6002353aFmtSuffix
set_option linter.all false
namespace Go.Proofs.Qxb6002353aFmt
open Go.RowKit Go.Extern.Stop Go.Stop Go.Extern

/-- What holds ahead of each round. -/
structure St (F : Interp) (w3 : World) (bd : Nat) (dv : Option Nat) (n : Nat) (wr : World) (a : Option Addr) (len : Nat) (e : Option Nat) : Prop where
  dec : IsDec wr bd a len e
  rest : RestOf dv n a len
  data : DataIn wr bd dv n
  bel : Below bd w3 wr
  ans : F.answers wr.tape

section
variable {F : Interp} {w3 : World} {bd : Nat} {dv : Option Nat} {n : Nat} {wr w' : World} {a a' : Option Addr} {len len' : Nat} {e e' : Option Nat}
theorem St.step (s : St F w3 bd dv n wr a len e) (h : IsDec w' bd a' len' e') (hr : RestOf dv n a' len') (hb : Below bd wr w') : St F w3 bd dv n w' a' len' e' :=
  ⟨h, hr, s.data.below hb, s.bel.trans hb, by rw [hb.tape]; exact s.ans⟩
theorem St.drewN (s : St F w3 bd dv n wr a len e) (q : Nat) : St F w3 bd dv n (wr.drewN q) a len e := ⟨s.dec, s.rest, s.data, ⟨s.bel.os, s.bel.tape, s.bel.output, s.bel.size, s.bel.block⟩, s.ans⟩
theorem below_draws' (B : Nat) (w : World) (q : Nat) : Below B w (w.drewN q) := ⟨rfl, rfl, rfl, Nat.le_refl _, fun _ _ => rfl⟩
end
theorem datV_eq {dv : Option Nat} {n : Nat} (h : dv = none → n = 0) : datV dv n = .slice (dv.map fun g => ⟨g, 0, none⟩) n n := by
  cases dv with
  | none => rw [h rfl]; rfl
  | some g => rfl

set_option maxRecDepth 100000 in
set_option maxHeartbeats 4000000 in
theorem law_walk (F : Interp) (a0 : Option Addr) (len0 cap0 : Nat) (a1 : Option Addr) (len1 cap1 : Nat) (f0 f1 : Nat → Int) (w : World) (hF : F.answers w.tape)
    (s0 : SIn w .u8 a0 len0 f0) (n0 : a0 = none → len0 = 0) (b0 : ∀ i, i < len0 → 0 ≤ f0 i ∧ f0 i ≤ 255) (l0 : len0 ≤ maxLen)
    (s1 : SIn w .u8 a1 len1 f1) (n1 : a1 = none → len1 = 0) (b1 : ∀ i, i < len1 → 0 ≤ f1 i ∧ f1 i ≤ 255) (l1 : len1 ≤ maxLen) :
    Calls Tryf.prog 7 #[.slice a0 len0 cap0, .slice a1 len1 cap1] w fun e w' => e = .returned (.bool true) ∧ Below w.heap.size w w' := by
  have L0 : len0 ≤ 9223372036854775807 := by unfold maxLen at l0; omega
  have L1 : len1 ≤ 9223372036854775807 := by unfold maxLen at l1; omega
  have IN : Hid (F.answers w.tape ∧ SIn w .u8 a0 len0 f0 ∧ (a0 = none → len0 = 0) ∧ (∀ i, i < len0 → 0 ≤ f0 i ∧ f0 i ≤ 255) ∧ SIn w .u8 a1 len1 f1 ∧ (a1 = none → len1 = 0) ∧ (∀ i, i < len1 → 0 ≤ f1 i ∧ f1 i ≤ 255)) := ⟨hF, s0, n0, b0, s1, n1, b1⟩
  clear hF s0 n0 b0 s1 n1 b1
  go_enter Tryf.func7, Tryf.ntmps7
  go_wp2_with fail
  refine (zzBytes_any a0 len0 cap0 a1 len1 cap1 w l0 l1).mono ?_
  rintro e w' ⟨b, rfl, rfl, hb⟩
  cases b with
  | false =>
    go_wp2_with fail
    go_ret
    exact ⟨rfl, Below.refl _ _⟩
  | true =>
    obtain ⟨hb0, hb1⟩ := hb rfl
    by_cases h64 : len1 > 64
    · go_wp2_with fail
      go_ret
      exact ⟨rfl, Below.refl _ _⟩
    by_cases hsum : (len0 : Int) + len1 > 1048576
    · go_wp2_with fail
      go_ret
      exact ⟨rfl, Below.refl _ _⟩
    go_wp2_with fail
    refine (clone_any a0 len0 cap0 f0 w' hb0 IN.out.2.1 IN.out.2.2.2.1 IN.out.2.2.1).mono ?_
    rintro r w1 ⟨dv, rfl, hbel1, hcl1⟩
    go_wp2_with fail
    refine (clone_any a1 len1 cap1 f1 w1 hb1 (IN.out.2.2.2.2.1.below hbel1) IN.out.2.2.2.2.2.2 IN.out.2.2.2.2.2.1).mono ?_
    rintro r w2 ⟨dv1, rfl, hbel2, hcl2⟩
    go_wp2_with fail
    refine (newDec_any dv len0 w2).mono ?_
    rintro r w3 ⟨rfl, hw3⟩
    rw [datV_eq hcl1.1] at hw3
    have hbel3 : Below w2.heap.size w2 w3 := by rw [hw3]; exact (Below.refl _ _).alloc (Nat.le_refl _) _
    have hbelW : Below w'.heap.size w' w3 := (hbel1.trans (hbel2.mono hbel1.size)).trans (hbel3.mono (by have := hbel1.size; have := hbel2.size; omega))
    have hdec : IsDec w3 w2.heap.size (dv.map fun g => ⟨g, 0, none⟩) len0 none := by rw [hw3]; exact heap_alloc_new w2 _
    have hdat : DataIn w3 w2.heap.size dv len0 := by
      refine ⟨hb0, fun bD e => ?_⟩
      obtain ⟨h1, h2, h3⟩ := hcl1.2 bD e
      have hsz := hbel2.size
      refine ⟨by omega, fun j hj => ?_⟩
      obtain ⟨z, z0, z1, hz⟩ := h3 j hj
      exact ⟨z, z0, z1, ((hbel3.cell (p := ⟨bD, j, none⟩) (show bD < w2.heap.size by omega)).trans (hbel2.cell (p := ⟨bD, j, none⟩) h2)).trans hz⟩
    have hrest : RestOf dv len0 (dv.map fun g => ⟨g, 0, none⟩) len0 := by
      cases dv with
      | none => exact ⟨rfl, hcl1.1 rfl, hcl1.1 rfl⟩
      | some g => exact ⟨0, rfl, Nat.le_refl _, fun _ => by omega⟩
    have hans : F.answers w3.tape := by rw [hbelW.tape]; exact IN.out.1
    have hst : St F w3 w2.heap.size dv len0 w3 (dv.map fun g => ⟨g, 0, none⟩) len0 none := ⟨hdec, hrest, hdat, Below.refl _ _, hans⟩
    have hops : Hid (∀ k, k < len1 → ∃ g z, dv1 = some g ∧ 0 ≤ z ∧ z ≤ 255 ∧ g < w2.heap.size ∧ w3.cell? ⟨g, k, none⟩ = some (.int .u8 z)) := by
      intro k hk
      cases dv1 with
      | none => have := hcl2.1 rfl; omega
      | some g =>
        obtain ⟨h1, h2, h3⟩ := hcl2.2 g rfl
        obtain ⟨z, z0, z1, hz⟩ := h3 k hk
        exact ⟨g, z, rfl, z0, z1, h2, (hbel3.cell (p := ⟨g, k, none⟩) h2).trans hz⟩
    have hbd : w'.heap.size ≤ w2.heap.size := by have := hbel1.size; have := hbel2.size; omega
    have FB : Hid (Below w'.heap.size w' w3) := hbelW
    rw [datV_eq hcl2.1]
    clear hcl1 hcl2 hbel1 hbel2 hbel3 hbelW hdec hdat hrest hans hw3 IN
    generalize w2.heap.size = bd at *
    generalize hdatv : datV dv len0 = dV
    have HD : Hid (datV dv len0 = dV) := hdatv
    clear hdatv
    go_wp2_with fail
    go_loopw [6] (fun i wr => ∃ (k : Nat) (a : Option Addr) (len : Nat) (e : Option Nat), k ≤ len1 ∧ i = .int .i64 k ∧ St F w3 bd dv len0 wr a len e) (fun i _ => len1 - (intOf i).toNat)
    case atStart => exact ⟨0, _, _, _, Nat.zero_le _, rfl, hst⟩
    case round =>
      obtain ⟨k, a, len, e, hk, rfl, hs⟩ := hrel
      clear hst
      by_cases hlt : k < len1
      · obtain ⟨g, z, rfl, z0, z1, hg, hz⟩ := hops.out k hlt
        have hz' : wr.cell? ⟨g, k, none⟩ = some (.int .u8 z) := (hs.bel.cell (p := ⟨g, k, none⟩) hg).trans hz
        clear hz hops
        simp only [Option.map]
        have hz6 : z % 6 = 0 ∨ z % 6 = 1 ∨ z % 6 = 2 ∨ z % 6 = 3 ∨ z % 6 = 4 ∨ z % 6 = 5 := by omega
        cases e with
        | some x =>
          go_wp2_with fail
          refine (err_any hs.dec).mono ?_
          rintro r _ ⟨rfl, rfl⟩
          simp only [errV]
          go_wp2_with fail
          refine (rest_any hs.dec).mono ?_
          rintro r _ ⟨rfl, rfl⟩
          rcases hz6 with hz6 | hz6 | hz6 | hz6 | hz6 | hz6
          · go_wp2_with fail
            refine (byte_any hs.dec hs.rest hs.data).mono ?_
            rintro r w4 ⟨zz, a', len', e', rfl, hzz, hr', hl', h', hb'⟩
            obtain ⟨rfl, rfl, rfl, rfl⟩ := hzz (by simp)
            have hs4 := hs.step h' hr' hb'
            clear hzz h' hr' hb' hz'
            clear hs
            have lt4 := hs4.rest.le
            go_wp2_with fail
            refine (rest_any hs4.dec).mono ?_
            rintro r _ ⟨rfl, rfl⟩
            go_wp2_with fail
            have hsuf := suffix_any hs4.rest hs4.data
            rw [HD.out] at hsuf
            refine hsuf.mono ?_
            rintro r w5 ⟨rfl, q, rfl⟩
            have hs5 := hs4.drewN q
            clear hs4 hsuf
            generalize World.drewN _ q = w5 at hs5 ⊢
            go_wp2_with fail
            refine (err_any hs5.dec).mono ?_
            rintro r _ ⟨rfl, rfl⟩
            simp only [errV]
            go_wp2_with fail
            refine (more_any hs5.dec).mono ?_
            rintro r _ ⟨rfl, rfl⟩
            simp only [Option.isNone, Bool.false_and, Bool.true_and]
            go_wp2_with fail
            refine (err_any hs5.dec).mono ?_
            rintro r _ ⟨rfl, rfl⟩
            simp only [errV]
            go_wp2_with fail
            go_roundw
            case rel => exact ⟨k + 1, _, _, _, by omega, by go_num, hs5⟩
            case measure => simp [intOf]; omega
          · go_wp2_with fail
            refine (uvarint_any F hs.ans hs.dec hs.rest hs.data).mono ?_
            rintro r w4 ⟨zz, a', len', e', rfl, hzz, hr', hl', h', hb'⟩
            obtain ⟨rfl, rfl, rfl, rfl⟩ := hzz (by simp)
            have hs4 := hs.step h' hr' hb'
            clear hzz h' hr' hb' hz'
            clear hs
            have lt4 := hs4.rest.le
            go_wp2_with fail
            refine (rest_any hs4.dec).mono ?_
            rintro r _ ⟨rfl, rfl⟩
            go_wp2_with fail
            have hsuf := suffix_any hs4.rest hs4.data
            rw [HD.out] at hsuf
            refine hsuf.mono ?_
            rintro r w5 ⟨rfl, q, rfl⟩
            have hs5 := hs4.drewN q
            clear hs4 hsuf
            generalize World.drewN _ q = w5 at hs5 ⊢
            go_wp2_with fail
            refine (err_any hs5.dec).mono ?_
            rintro r _ ⟨rfl, rfl⟩
            simp only [errV]
            go_wp2_with fail
            refine (more_any hs5.dec).mono ?_
            rintro r _ ⟨rfl, rfl⟩
            simp only [Option.isNone, Bool.false_and, Bool.true_and]
            go_wp2_with fail
            refine (err_any hs5.dec).mono ?_
            rintro r _ ⟨rfl, rfl⟩
            simp only [errV]
            go_wp2_with fail
            go_roundw
            case rel => exact ⟨k + 1, _, _, _, by omega, by go_num, hs5⟩
            case measure => simp [intOf]; omega
          · go_wp2_with fail
            refine (count_any F hs.ans hs.dec hs.rest hs.data).mono ?_
            rintro r w4 ⟨zz, a', len', e', rfl, hzz, hr', hl', h', hb'⟩
            obtain ⟨rfl, rfl, rfl, rfl⟩ := hzz (by simp)
            have hs4 := hs.step h' hr' hb'
            clear hzz h' hr' hb' hz'
            clear hs
            have lt4 := hs4.rest.le
            go_wp2_with fail
            refine (rest_any hs4.dec).mono ?_
            rintro r _ ⟨rfl, rfl⟩
            go_wp2_with fail
            have hsuf := suffix_any hs4.rest hs4.data
            rw [HD.out] at hsuf
            refine hsuf.mono ?_
            rintro r w5 ⟨rfl, q, rfl⟩
            have hs5 := hs4.drewN q
            clear hs4 hsuf
            generalize World.drewN _ q = w5 at hs5 ⊢
            go_wp2_with fail
            refine (err_any hs5.dec).mono ?_
            rintro r _ ⟨rfl, rfl⟩
            simp only [errV]
            go_wp2_with fail
            refine (more_any hs5.dec).mono ?_
            rintro r _ ⟨rfl, rfl⟩
            simp only [Option.isNone, Bool.false_and, Bool.true_and]
            go_wp2_with fail
            refine (err_any hs5.dec).mono ?_
            rintro r _ ⟨rfl, rfl⟩
            simp only [errV]
            go_wp2_with fail
            go_roundw
            case rel => exact ⟨k + 1, _, _, _, by omega, by go_num, hs5⟩
            case measure => simp [intOf]; omega
          · go_wp2_with fail
            refine (positive_any F hs.ans hs.dec hs.rest hs.data).mono ?_
            rintro r w4 ⟨zz, a', len', e', rfl, hzz, hr', hl', h', hb'⟩
            obtain ⟨rfl, rfl, rfl, rfl⟩ := hzz (by simp)
            have hs4 := hs.step h' hr' hb'
            clear hzz h' hr' hb' hz'
            clear hs
            have lt4 := hs4.rest.le
            go_wp2_with fail
            refine (rest_any hs4.dec).mono ?_
            rintro r _ ⟨rfl, rfl⟩
            go_wp2_with fail
            have hsuf := suffix_any hs4.rest hs4.data
            rw [HD.out] at hsuf
            refine hsuf.mono ?_
            rintro r w5 ⟨rfl, q, rfl⟩
            have hs5 := hs4.drewN q
            clear hs4 hsuf
            generalize World.drewN _ q = w5 at hs5 ⊢
            go_wp2_with fail
            refine (err_any hs5.dec).mono ?_
            rintro r _ ⟨rfl, rfl⟩
            simp only [errV]
            go_wp2_with fail
            refine (more_any hs5.dec).mono ?_
            rintro r _ ⟨rfl, rfl⟩
            simp only [Option.isNone, Bool.false_and, Bool.true_and]
            go_wp2_with fail
            refine (err_any hs5.dec).mono ?_
            rintro r _ ⟨rfl, rfl⟩
            simp only [errV]
            go_wp2_with fail
            go_roundw
            case rel => exact ⟨k + 1, _, _, _, by omega, by go_num, hs5⟩
            case measure => simp [intOf]; omega
          · go_wp2_with fail
            have lt := hs.dec.lt
            refine (zzerr_any false _).mono ?_
            rintro r w4 ⟨x4, rfl, hx4, hb4⟩
            have hs4 := hs.step (hs.dec.below hb4 lt) hs.rest (hb4.mono (Nat.le_of_lt lt))
            obtain rfl : x4 = none := hx4.2 rfl
            clear hs hx4 hb4 lt hz'
            go_wp2_with fail
            refine (fail_any none hs4.dec).mono ?_
            rintro r w5 ⟨rfl, h5, hb5⟩
            have hs := hs4.step h5 hs4.rest hb5
            clear hs4 h5 hb5
            simp only [reduceCtorEq, if_false, if_true] at hs
            go_wp2_with fail
            refine (err_any hs.dec).mono ?_
            rintro r _ ⟨rfl, rfl⟩
            simp only [errV]
            go_wp2_with fail
            refine (rest_any hs.dec).mono ?_
            rintro r _ ⟨rfl, rfl⟩
            have hs4 := hs
            clear hs
            have lt4 := hs4.rest.le
            go_wp2_with fail
            refine (rest_any hs4.dec).mono ?_
            rintro r _ ⟨rfl, rfl⟩
            go_wp2_with fail
            have hsuf := suffix_any hs4.rest hs4.data
            rw [HD.out] at hsuf
            refine hsuf.mono ?_
            rintro r w5 ⟨rfl, q, rfl⟩
            have hs5 := hs4.drewN q
            clear hs4 hsuf
            generalize World.drewN _ q = w5 at hs5 ⊢
            go_wp2_with fail
            refine (err_any hs5.dec).mono ?_
            rintro r _ ⟨rfl, rfl⟩
            simp only [errV]
            go_wp2_with fail
            refine (more_any hs5.dec).mono ?_
            rintro r _ ⟨rfl, rfl⟩
            simp only [Option.isNone, Bool.false_and, Bool.true_and]
            go_wp2_with fail
            refine (err_any hs5.dec).mono ?_
            rintro r _ ⟨rfl, rfl⟩
            simp only [errV]
            go_wp2_with fail
            go_roundw
            case rel => exact ⟨k + 1, _, _, _, by omega, by go_num, hs5⟩
            case measure => simp [intOf]; omega
          · go_wp2_with fail
            have lt := hs.dec.lt
            refine (zzerr_any true _).mono ?_
            rintro r w4 ⟨x4, rfl, hx4, hb4⟩
            have hs4 := hs.step (hs.dec.below hb4 lt) hs.rest (hb4.mono (Nat.le_of_lt lt))
            obtain ⟨y4, rfl⟩ : ∃ y, x4 = some y := by
              cases x4 with
              | none => exact absurd (hx4.1 rfl) (by simp)
              | some y => exact ⟨y, rfl⟩
            clear hs hx4 hb4 lt hz'
            go_wp2_with fail
            refine (fail_any (some y4) hs4.dec).mono ?_
            rintro r w5 ⟨rfl, h5, hb5⟩
            have hs := hs4.step h5 hs4.rest hb5
            clear hs4 h5 hb5
            simp only [reduceCtorEq, if_false, if_true] at hs
            go_wp2_with fail
            refine (err_any hs.dec).mono ?_
            rintro r _ ⟨rfl, rfl⟩
            simp only [errV]
            go_wp2_with fail
            refine (rest_any hs.dec).mono ?_
            rintro r _ ⟨rfl, rfl⟩
            have hs4 := hs
            clear hs
            have lt4 := hs4.rest.le
            go_wp2_with fail
            refine (rest_any hs4.dec).mono ?_
            rintro r _ ⟨rfl, rfl⟩
            go_wp2_with fail
            have hsuf := suffix_any hs4.rest hs4.data
            rw [HD.out] at hsuf
            refine hsuf.mono ?_
            rintro r w5 ⟨rfl, q, rfl⟩
            have hs5 := hs4.drewN q
            clear hs4 hsuf
            generalize World.drewN _ q = w5 at hs5 ⊢
            go_wp2_with fail
            refine (err_any hs5.dec).mono ?_
            rintro r _ ⟨rfl, rfl⟩
            simp only [errV]
            go_wp2_with fail
            refine (more_any hs5.dec).mono ?_
            rintro r _ ⟨rfl, rfl⟩
            simp only [Option.isNone, Bool.false_and, Bool.true_and]
            go_wp2_with fail
            refine (err_any hs5.dec).mono ?_
            rintro r _ ⟨rfl, rfl⟩
            simp only [errV]
            go_wp2_with fail
            go_roundw
            case rel => exact ⟨k + 1, _, _, _, by omega, by go_num, hs5⟩
            case measure => simp [intOf]; omega
        | none =>
          go_wp2_with fail
          refine (err_any hs.dec).mono ?_
          rintro r _ ⟨rfl, rfl⟩
          simp only [errV]
          go_wp2_with fail
          refine (rest_any hs.dec).mono ?_
          rintro r _ ⟨rfl, rfl⟩
          rcases hz6 with hz6 | hz6 | hz6 | hz6 | hz6 | hz6
          · go_wp2_with fail
            refine (byte_any hs.dec hs.rest hs.data).mono ?_
            rintro r w4 ⟨zz, a', len', e', rfl, hzz, hr', hl', h', hb'⟩
            have hs4 := hs.step h' hr' hb'
            clear hzz h' hr' hb' hz'
            clear hs
            have lt4 := hs4.rest.le
            go_wp2_with fail
            refine (rest_any hs4.dec).mono ?_
            rintro r _ ⟨rfl, rfl⟩
            go_wp2_with fail
            have hsuf := suffix_any hs4.rest hs4.data
            rw [HD.out] at hsuf
            refine hsuf.mono ?_
            rintro r w5 ⟨rfl, q, rfl⟩
            have hs5 := hs4.drewN q
            clear hs4 hsuf
            generalize World.drewN _ q = w5 at hs5 ⊢
            cases e' with
            | some x' =>
              go_wp2_with fail
              refine (more_any hs5.dec).mono ?_
              rintro r _ ⟨rfl, rfl⟩
              simp only [Option.isNone, Bool.false_and, Bool.true_and]
              go_wp2_with fail
              refine (err_any hs5.dec).mono ?_
              rintro r _ ⟨rfl, rfl⟩
              simp only [errV]
              go_wp2_with fail
              go_roundw
              case rel => exact ⟨k + 1, _, _, _, by omega, by go_num, hs5⟩
              case measure => simp [intOf]; omega
            | none =>
              go_wp2_with fail
              refine (more_any hs5.dec).mono ?_
              rintro r _ ⟨rfl, rfl⟩
              simp only [Option.isNone, Bool.false_and, Bool.true_and]
              go_wp2_with fail
              refine (err_any hs5.dec).mono ?_
              rintro r _ ⟨rfl, rfl⟩
              simp only [errV]
              go_wp2_with fail
              go_roundw
              case rel => exact ⟨k + 1, _, _, _, by omega, by go_num, hs5⟩
              case measure => simp [intOf]; omega
          · go_wp2_with fail
            refine (uvarint_any F hs.ans hs.dec hs.rest hs.data).mono ?_
            rintro r w4 ⟨zz, a', len', e', rfl, hzz, hr', hl', h', hb'⟩
            have hs4 := hs.step h' hr' hb'
            clear hzz h' hr' hb' hz'
            clear hs
            have lt4 := hs4.rest.le
            go_wp2_with fail
            refine (rest_any hs4.dec).mono ?_
            rintro r _ ⟨rfl, rfl⟩
            go_wp2_with fail
            have hsuf := suffix_any hs4.rest hs4.data
            rw [HD.out] at hsuf
            refine hsuf.mono ?_
            rintro r w5 ⟨rfl, q, rfl⟩
            have hs5 := hs4.drewN q
            clear hs4 hsuf
            generalize World.drewN _ q = w5 at hs5 ⊢
            cases e' with
            | some x' =>
              go_wp2_with fail
              refine (more_any hs5.dec).mono ?_
              rintro r _ ⟨rfl, rfl⟩
              simp only [Option.isNone, Bool.false_and, Bool.true_and]
              go_wp2_with fail
              refine (err_any hs5.dec).mono ?_
              rintro r _ ⟨rfl, rfl⟩
              simp only [errV]
              go_wp2_with fail
              go_roundw
              case rel => exact ⟨k + 1, _, _, _, by omega, by go_num, hs5⟩
              case measure => simp [intOf]; omega
            | none =>
              go_wp2_with fail
              refine (more_any hs5.dec).mono ?_
              rintro r _ ⟨rfl, rfl⟩
              simp only [Option.isNone, Bool.false_and, Bool.true_and]
              go_wp2_with fail
              refine (err_any hs5.dec).mono ?_
              rintro r _ ⟨rfl, rfl⟩
              simp only [errV]
              go_wp2_with fail
              go_roundw
              case rel => exact ⟨k + 1, _, _, _, by omega, by go_num, hs5⟩
              case measure => simp [intOf]; omega
          · go_wp2_with fail
            refine (count_any F hs.ans hs.dec hs.rest hs.data).mono ?_
            rintro r w4 ⟨zz, a', len', e', rfl, hzz, hr', hl', h', hb'⟩
            have hs4 := hs.step h' hr' hb'
            clear hzz h' hr' hb' hz'
            clear hs
            have lt4 := hs4.rest.le
            go_wp2_with fail
            refine (rest_any hs4.dec).mono ?_
            rintro r _ ⟨rfl, rfl⟩
            go_wp2_with fail
            have hsuf := suffix_any hs4.rest hs4.data
            rw [HD.out] at hsuf
            refine hsuf.mono ?_
            rintro r w5 ⟨rfl, q, rfl⟩
            have hs5 := hs4.drewN q
            clear hs4 hsuf
            generalize World.drewN _ q = w5 at hs5 ⊢
            cases e' with
            | some x' =>
              go_wp2_with fail
              refine (more_any hs5.dec).mono ?_
              rintro r _ ⟨rfl, rfl⟩
              simp only [Option.isNone, Bool.false_and, Bool.true_and]
              go_wp2_with fail
              refine (err_any hs5.dec).mono ?_
              rintro r _ ⟨rfl, rfl⟩
              simp only [errV]
              go_wp2_with fail
              go_roundw
              case rel => exact ⟨k + 1, _, _, _, by omega, by go_num, hs5⟩
              case measure => simp [intOf]; omega
            | none =>
              go_wp2_with fail
              refine (more_any hs5.dec).mono ?_
              rintro r _ ⟨rfl, rfl⟩
              simp only [Option.isNone, Bool.false_and, Bool.true_and]
              go_wp2_with fail
              refine (err_any hs5.dec).mono ?_
              rintro r _ ⟨rfl, rfl⟩
              simp only [errV]
              go_wp2_with fail
              go_roundw
              case rel => exact ⟨k + 1, _, _, _, by omega, by go_num, hs5⟩
              case measure => simp [intOf]; omega
          · go_wp2_with fail
            refine (positive_any F hs.ans hs.dec hs.rest hs.data).mono ?_
            rintro r w4 ⟨zz, a', len', e', rfl, hzz, hr', hl', h', hb'⟩
            have hs4 := hs.step h' hr' hb'
            clear hzz h' hr' hb' hz'
            clear hs
            have lt4 := hs4.rest.le
            go_wp2_with fail
            refine (rest_any hs4.dec).mono ?_
            rintro r _ ⟨rfl, rfl⟩
            go_wp2_with fail
            have hsuf := suffix_any hs4.rest hs4.data
            rw [HD.out] at hsuf
            refine hsuf.mono ?_
            rintro r w5 ⟨rfl, q, rfl⟩
            have hs5 := hs4.drewN q
            clear hs4 hsuf
            generalize World.drewN _ q = w5 at hs5 ⊢
            cases e' with
            | some x' =>
              go_wp2_with fail
              refine (more_any hs5.dec).mono ?_
              rintro r _ ⟨rfl, rfl⟩
              simp only [Option.isNone, Bool.false_and, Bool.true_and]
              go_wp2_with fail
              refine (err_any hs5.dec).mono ?_
              rintro r _ ⟨rfl, rfl⟩
              simp only [errV]
              go_wp2_with fail
              go_roundw
              case rel => exact ⟨k + 1, _, _, _, by omega, by go_num, hs5⟩
              case measure => simp [intOf]; omega
            | none =>
              go_wp2_with fail
              refine (more_any hs5.dec).mono ?_
              rintro r _ ⟨rfl, rfl⟩
              simp only [Option.isNone, Bool.false_and, Bool.true_and]
              go_wp2_with fail
              refine (err_any hs5.dec).mono ?_
              rintro r _ ⟨rfl, rfl⟩
              simp only [errV]
              go_wp2_with fail
              go_roundw
              case rel => exact ⟨k + 1, _, _, _, by omega, by go_num, hs5⟩
              case measure => simp [intOf]; omega
          · go_wp2_with fail
            have lt := hs.dec.lt
            refine (zzerr_any false _).mono ?_
            rintro r w4 ⟨x4, rfl, hx4, hb4⟩
            have hs4 := hs.step (hs.dec.below hb4 lt) hs.rest (hb4.mono (Nat.le_of_lt lt))
            obtain rfl : x4 = none := hx4.2 rfl
            clear hs hx4 hb4 lt hz'
            go_wp2_with fail
            refine (fail_any none hs4.dec).mono ?_
            rintro r w5 ⟨rfl, h5, hb5⟩
            have hs := hs4.step h5 hs4.rest hb5
            clear hs4 h5 hb5
            simp only [reduceCtorEq, if_false, if_true] at hs
            go_wp2_with fail
            refine (err_any hs.dec).mono ?_
            rintro r _ ⟨rfl, rfl⟩
            simp only [errV]
            go_wp2_with fail
            refine (rest_any hs.dec).mono ?_
            rintro r _ ⟨rfl, rfl⟩
            have hs4 := hs
            clear hs
            have lt4 := hs4.rest.le
            go_wp2_with fail
            refine (rest_any hs4.dec).mono ?_
            rintro r _ ⟨rfl, rfl⟩
            go_wp2_with fail
            have hsuf := suffix_any hs4.rest hs4.data
            rw [HD.out] at hsuf
            refine hsuf.mono ?_
            rintro r w5 ⟨rfl, q, rfl⟩
            have hs5 := hs4.drewN q
            clear hs4 hsuf
            generalize World.drewN _ q = w5 at hs5 ⊢
            go_wp2_with fail
            refine (more_any hs5.dec).mono ?_
            rintro r _ ⟨rfl, rfl⟩
            simp only [Option.isNone, Bool.false_and, Bool.true_and]
            go_wp2_with fail
            refine (err_any hs5.dec).mono ?_
            rintro r _ ⟨rfl, rfl⟩
            simp only [errV]
            go_wp2_with fail
            go_roundw
            case rel => exact ⟨k + 1, _, _, _, by omega, by go_num, hs5⟩
            case measure => simp [intOf]; omega
          · go_wp2_with fail
            have lt := hs.dec.lt
            refine (zzerr_any true _).mono ?_
            rintro r w4 ⟨x4, rfl, hx4, hb4⟩
            have hs4 := hs.step (hs.dec.below hb4 lt) hs.rest (hb4.mono (Nat.le_of_lt lt))
            obtain ⟨y4, rfl⟩ : ∃ y, x4 = some y := by
              cases x4 with
              | none => exact absurd (hx4.1 rfl) (by simp)
              | some y => exact ⟨y, rfl⟩
            clear hs hx4 hb4 lt hz'
            go_wp2_with fail
            refine (fail_any (some y4) hs4.dec).mono ?_
            rintro r w5 ⟨rfl, h5, hb5⟩
            have hs := hs4.step h5 hs4.rest hb5
            clear hs4 h5 hb5
            simp only [reduceCtorEq, if_false, if_true] at hs
            go_wp2_with fail
            refine (err_any hs.dec).mono ?_
            rintro r _ ⟨rfl, rfl⟩
            simp only [errV]
            go_wp2_with fail
            refine (rest_any hs.dec).mono ?_
            rintro r _ ⟨rfl, rfl⟩
            have hs4 := hs
            clear hs
            have lt4 := hs4.rest.le
            go_wp2_with fail
            refine (rest_any hs4.dec).mono ?_
            rintro r _ ⟨rfl, rfl⟩
            go_wp2_with fail
            have hsuf := suffix_any hs4.rest hs4.data
            rw [HD.out] at hsuf
            refine hsuf.mono ?_
            rintro r w5 ⟨rfl, q, rfl⟩
            have hs5 := hs4.drewN q
            clear hs4 hsuf
            generalize World.drewN _ q = w5 at hs5 ⊢
            go_wp2_with fail
            refine (more_any hs5.dec).mono ?_
            rintro r _ ⟨rfl, rfl⟩
            simp only [Option.isNone, Bool.false_and, Bool.true_and]
            go_wp2_with fail
            refine (err_any hs5.dec).mono ?_
            rintro r _ ⟨rfl, rfl⟩
            simp only [errV]
            go_wp2_with fail
            go_roundw
            case rel => exact ⟨k + 1, _, _, _, by omega, by go_num, hs5⟩
            case measure => simp [intOf]; omega
      · clear hops
        have hle := hs.rest.le
        cases e with
        | some x =>
          go_wp2_with fail
          refine (err_any hs.dec).mono ?_
          rintro r _ ⟨rfl, rfl⟩
          simp only [errV]
          go_wp2_with fail
          refine (rest_any hs.dec).mono ?_
          rintro r _ ⟨rfl, rfl⟩
          go_wp2_with fail
          refine (end_any F hs.ans hs.dec hs.rest hs.data).mono ?_
          rintro r w5 ⟨e', rfl, he', h5, hb5⟩
          obtain ⟨y, rfl⟩ : ∃ y, e' = some y := by
            cases e' with
            | none => exact absurd (he'.1 rfl).1 (by simp)
            | some y => exact ⟨y, rfl⟩
          have BB : Hid (Below w'.heap.size w' w5) := FB.out.trans ((hs.bel.trans hb5).mono hbd)
          have herr : ∀ q, Calls Tryf.prog 13 #[.pointer (some ⟨bd, 0, none⟩)] (w5.drewN q) fun r w' => r = .returned (.iface 51 (.pointer (some ⟨y, 0, none⟩))) ∧ w' = w5.drewN q := fun q => err_any (show IsDec (w5.drewN q) bd a len (some y) from h5)
          clear hs h5 hb5 he' FB
          simp only [errV]
          go_upto_region 42 with fail
          go_quiet (first | (go_at_call 13; refine Calls.quiet_of_same (herr _)))
          go_wp2_with fail
          go_ret
          exact ⟨rfl, BB.out.trans (below_draws' _ _ _)⟩
        | none =>
          by_cases hl0 : len = 0
          · subst hl0
            go_wp2_with fail
            refine (err_any hs.dec).mono ?_
            rintro r _ ⟨rfl, rfl⟩
            simp only [errV]
            go_wp2_with fail
            refine (rest_any hs.dec).mono ?_
            rintro r _ ⟨rfl, rfl⟩
            go_wp2_with fail
            refine (end_any F hs.ans hs.dec hs.rest hs.data).mono ?_
            rintro r w5 ⟨e', rfl, he', h5, hb5⟩
            obtain rfl : e' = none := he'.2 ⟨rfl, rfl⟩
            have BB : Hid (Below w'.heap.size w' w5) := FB.out.trans ((hs.bel.trans hb5).mono hbd)
            have herr : ∀ q, Calls Tryf.prog 13 #[.pointer (some ⟨bd, 0, none⟩)] (w5.drewN q) fun r w' => r = .returned .nilIface ∧ w' = w5.drewN q := fun q => err_any (show IsDec (w5.drewN q) bd a 0 none from h5)
            clear hs h5 hb5 he' FB
            simp only [errV]
            go_upto_region 42 with fail
            go_quiet (first | (go_at_call 13; refine Calls.quiet_of_same (herr _)))
            go_wp2_with fail
            go_ret
            exact ⟨rfl, BB.out.trans (below_draws' _ _ _)⟩
          · have hl1 : 0 < len := by omega
            go_wp2_with fail
            refine (err_any hs.dec).mono ?_
            rintro r _ ⟨rfl, rfl⟩
            simp only [errV]
            go_wp2_with fail
            refine (rest_any hs.dec).mono ?_
            rintro r _ ⟨rfl, rfl⟩
            go_wp2_with fail
            refine (end_any F hs.ans hs.dec hs.rest hs.data).mono ?_
            rintro r w5 ⟨e', rfl, he', h5, hb5⟩
            obtain ⟨y, rfl⟩ : ∃ y, e' = some y := by
              cases e' with
              | none => exact absurd (he'.1 rfl).2 hl0
              | some y => exact ⟨y, rfl⟩
            have BB : Hid (Below w'.heap.size w' w5) := FB.out.trans ((hs.bel.trans hb5).mono hbd)
            have herr : ∀ q, Calls Tryf.prog 13 #[.pointer (some ⟨bd, 0, none⟩)] (w5.drewN q) fun r w' => r = .returned (.iface 51 (.pointer (some ⟨y, 0, none⟩))) ∧ w' = w5.drewN q := fun q => err_any (show IsDec (w5.drewN q) bd a len (some y) from h5)
            clear hs h5 hb5 he' FB
            simp only [errV]
            go_upto_region 42 with fail
            go_quiet (first | (go_at_call 13; refine Calls.quiet_of_same (herr _)))
            go_wp2_with fail
            go_ret
            exact ⟨rfl, BB.out.trans (below_draws' _ _ _)⟩
end Go.Proofs.Qxb6002353aFmt
