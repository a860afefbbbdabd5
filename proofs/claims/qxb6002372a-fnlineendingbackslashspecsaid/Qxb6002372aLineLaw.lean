/-
  FnLineEndingBackslashSpec: the law's walk.
-/
import Derived.Test.Qxb6002372aZZ16
set_option linter.all false
namespace Go.Proofs.Qxb6002372a
open Go.RowKit

/-- The law's second loop holds at each place of the stretch. -/
def Good (f : Nat → Int) (q i : Nat) : Prop := f i = 10 ∨ (f i = 13 ∧ i + 1 < q ∧ f (i + 1) = 10) ∨ blank (f i)

theorem cnt_step (f : Nat → Int) {a i : Nat} (h : a ≤ i) : cnt f a (i + 1 - a) = cnt f a (i - a) + (if f i = 10 then 1 else 0) := by
  rw [show i + 1 - a = (i - a) + 1 by omega, cnt, show a + (i - a) = i by omega]

set_option maxRecDepth 100000 in
set_option maxHeartbeats 4000000 in
theorem line_walk (a0 : Option Addr) (len cap : Nat) (f : Nat → Int) (pos line : Int) (w : World) (s0 : SIn w .u8 a0 len f) (b0 : ∀ i, i < len → 0 ≤ f i ∧ f i ≤ 255) (l0 : len ≤ maxLen)
    (hl : -9223372036854775808 ≤ line ∧ line ≤ 9223372036854775807) (hp0 : -9223372036854775808 ≤ pos ∧ pos ≤ 9223372036854775807) :
    Calls Try.prog 4 #[.slice a0 len cap, .int .i64 pos, .int .i64 line] w fun e w' => e = .returned (.bool true) ∧ Below w.heap.size w w' := by
  have L0 : len ≤ 9223372036854775807 := by unfold maxLen at l0; omega
  have IN : Hid (SIn w .u8 a0 len f ∧ ∀ i, i < len → 0 ≤ f i ∧ f i ≤ 255) := ⟨s0, b0⟩
  clear s0 b0
  go_enter Try.func4, Try.ntmps4
  go_wp2_with fail
  refine (zz18_any a0 len cap pos line l0 w).mono ?_
  rintro e w' ⟨b, rfl, rfl, hb⟩
  cases b with
  | false =>
    go_wp2_with fail
    go_ret
    exact ⟨rfl, Below.refl _ _⟩
  | true =>
    have hn := hb rfl
    by_cases hneg : pos < 0
    · go_wp2_with fail
      go_ret
      exact ⟨rfl, Below.refl _ _⟩
    obtain ⟨p, rfl⟩ : ∃ p : Nat, pos = (p : Int) := ⟨pos.toNat, by omega⟩
    by_cases hge : (len : Int) ≤ (p : Int)
    · go_wp2_with fail
      go_ret
      exact ⟨rfl, Below.refl _ _⟩
    have hlt : p < len := by omega
    obtain ⟨b, off, rfl, hbB, hcell⟩ := IN.out.1 (by omega)
    have hcp := hcell p hlt
    have i1 : (0 : Int) ≤ (p : Int) := by omega
    have i2 : (p : Int) < (len : Int) := by omega
    have CELL := hide' hcell
    clear hcell
    by_cases hbs : f p = 92
    · rw [hbs] at hcp
      go_wp2_with fail
      refine (clone_some b off len cap f w' hn CELL.out (fun _ => hbB)).mono ?_
      rintro r w1 ⟨rfl, hb1, hrow⟩
      have cells : ∀ j, j < len → 0 ≤ f j ∧ f j ≤ 255 ∧ w1.cell? ⟨w'.heap.size, j, none⟩ = some (.int .u8 (f j)) := fun j hj => ⟨(IN.out.2 j hj).1, (IN.out.2 j hj).2, hrow.cell hj⟩
      have hgl := hrow.lt
      have R := hide' (And.intro hb1 (And.intro hrow cells))
      clear hb1 hrow cells hcp CELL IN
      go_wp2_with fail
      go_loop [7] (fun i => ∃ k : Nat, i = .int .i64 (k : Int) ∧ p + 1 ≤ k ∧ k ≤ len ∧ ∀ j, p + 1 ≤ j → j < k → blank (f j)) (fun i => len - (intOf i).toNat)
      case atStart => exact ⟨p + 1, by go_num, Nat.le_refl _, by omega, fun j h1 h2 => by omega⟩
      case round =>
        obtain ⟨k, rfl, hk1, hk2, hall⟩ := hrel
        have HA : Hid (∀ j, p + 1 ≤ j → j < k → blank (f j)) := hall
        clear hall
        by_cases hkl : k < len
        · have hx := (R.out.2.2 k hkl).2.2
          have j1 : (0 : Int) ≤ (k : Int) := by omega
          have j2 : (k : Int) < (len : Int) := by omega
          by_cases hbk : blank (f k)
          · have HBk := hide' hbk
            go_wp2_with fail
            have A := isBlank_any (f k) w1
            rw [decide_eq_true HBk.out] at A
            refine A.mono ?_
            rintro r _ ⟨rfl, rfl⟩
            clear A hbk
            go_wp2_with fail
            go_round
            case rel =>
              refine ⟨k + 1, by go_num, by omega, by omega, fun j a b => ?_⟩
              by_cases e : j = k
              · rw [e]; exact HBk.out
              · exact HA.out j a (by omega)
            case measure => simp [intOf]; omega
          · have HK : Hid (Skip f len (p + 1) k) := ⟨hk1, hk2, HA.out, fun _ => hbk⟩
            go_wp2_with fail
            have A := isBlank_any (f k) w1
            rw [decide_eq_false hbk] at A
            refine A.mono ?_
            rintro r _ ⟨rfl, rfl⟩
            clear A hbk
            by_cases e10 : f k = 10
            · rw [e10] at hx
              go_wp2_with fail
              refine (zz16_any hn hgl R.out.2.2 hlt hl).mono ?_
              rintro r w2 ⟨hb2, k', hsk, hres⟩
              obtain rfl := hsk.unique HK.out
              rcases hres with ⟨q, c, rfl, _, hstr, hc1, e1, e2, e3⟩ | ⟨rfl, n1, n2⟩
              · obtain ⟨q1, q2, q3, q4⟩ := hstr.facts (by omega)
                have hcle := cnt_le f (p + 1) (q - (p + 1))
                rw [q3] at hcle
                have hq : p + 1 < q := by omega
                have hsub := lineAt_sub line c (by omega)
                have S := hide' (And.intro (R.out.1.trans (hb2.mono R.out.1.size)) (And.intro e1 (And.intro e2 (And.intro e3 (And.intro q3 q4)))))
                have cells2 : ∀ j, j < len → w2.cell? ⟨w'.heap.size, j, none⟩ = some (.int .u8 (f j)) := fun j hj => (hb2.cell (p := ⟨w'.heap.size, j, none⟩) hgl).trans (R.out.2.2 j hj).2.2
                have C2 := hide' cells2
                have hcn : c ≤ 1048576 := by omega
                have t1 : decide (len < q) = false := by simp; omega
                have t2 : decide ((q : Int) ≤ (p : Int) + 1) = false := by simp; omega
                have t3 : decide ((len : Int) < (q : Int)) = false := by simp; omega
                generalize lineAt line c = L at hsub ⊢
                clear hb2 hsk e1 e2 e3 q3 q4 hstr cells2 hcle hx
                go_wp2_with fail
                go_loop [12, 13] (fun a i => ∃ j M : Nat, i = .int .i64 (j : Int) ∧ a = .int .i64 (M : Int) ∧ p + 1 ≤ j ∧ j ≤ q ∧ Hid (M = cnt f (p + 1) (j - (p + 1)))) (fun _ i => q - (intOf i).toNat)
                case atStart => exact ⟨p + 1, 0, by go_num, rfl, Nat.le_refl _, by omega, by simp [Hid, cnt]⟩
                case round =>
                  obtain ⟨i, M, rfl, rfl, hi1, hi2, hM⟩ := hrel
                  have hMb : M ≤ 1048576 := by have := hM.out; have := cnt_le f (p + 1) (i - (p + 1)); omega
                  by_cases hiq : i < q
                  · have hz := C2.out i (by omega)
                    have w1' : (0 : Int) ≤ (i : Int) := by omega
                    have w2' : (i : Int) < (len : Int) := by omega
                    have w3' : (i : Int) < (q : Int) := by omega
                    have hcs := cnt_step f hi1
                    rcases S.out.2.2.2.2.2 i hi1 hiq with g | g | g
                    · rw [if_pos g, ← hM.out] at hcs
                      have HC := hide' hcs
                      rw [g] at hz
                      clear hcs g
                      go_wp2_with fail
                      go_round
                      case rel => exact ⟨i + 1, M + 1, by go_num, by go_num, by omega, by omega, HC.out.symm⟩
                      case measure => simp [intOf]; omega
                    · obtain ⟨g, g2, g3⟩ := g
                      rw [if_neg (by omega), ← hM.out] at hcs
                      have HC := hide' hcs
                      have hz2 := C2.out (i + 1) (by omega)
                      have w4' : (0 : Int) ≤ (i : Int) + 1 := by omega
                      have w5' : (i : Int) + 1 < (len : Int) := by omega
                      have w6' : (i : Int) + 1 < (q : Int) := by omega
                      rw [g] at hz
                      rw [g3] at hz2
                      clear hcs g g3
                      go_wp2_with fail
                      go_round
                      case rel => exact ⟨i + 1, M, by go_num, rfl, by omega, by omega, HC.out.symm⟩
                      case measure => simp [intOf]; omega
                    · have z10' : (f i == 10) = false := by rcases g with h | h <;> rw [h] <;> rfl
                      have z13' : (f i == 13) = false := by rcases g with h | h <;> rw [h] <;> rfl
                      rw [if_neg (by rcases g with h | h <;> omega), ← hM.out] at hcs
                      have HC := hide' hcs
                      have HG := hide' g
                      clear hcs g
                      go_wp2_with fail
                      have A := isBlank_any (f i) w2
                      rw [decide_eq_true HG.out] at A
                      refine A.mono ?_
                      rintro r _ ⟨rfl, rfl⟩
                      clear A
                      go_wp2_with fail
                      go_round
                      case rel => exact ⟨i + 1, M, by go_num, rfl, by omega, by omega, HC.out.symm⟩
                      case measure => simp [intOf]; omega
                  · obtain rfl : q = i := by omega
                    obtain rfl : M = c := hM.out.trans S.out.2.2.2.2.1
                    by_cases hql : q < len
                    · have hz := C2.out q hql
                      have w1' : (0 : Int) ≤ (q : Int) := by omega
                      have w2' : (q : Int) < (len : Int) := by omega
                      have z10' : (f q == 10) = false := by simp; exact fun h => S.out.2.1 ⟨hql, h⟩
                      go_wp2_with fail
                      have A := isBlank_any (f q) w2
                      rw [decide_eq_false (S.out.2.2.2.1 hql)] at A
                      refine A.mono ?_
                      rintro r _ ⟨rfl, rfl⟩
                      clear A
                      by_cases e13' : f q = 13
                      · rw [e13'] at hz
                        by_cases hq1 : q + 1 < len
                        · have hz2 := C2.out (q + 1) hq1
                          have w4' : (0 : Int) ≤ (q : Int) + 1 := by omega
                          have w5' : (q : Int) + 1 < (len : Int) := by omega
                          have zz : (f (q + 1) == 10) = false := by simp; exact fun h => S.out.2.2.1 ⟨hq1, e13', h⟩
                          clear z10'
                          go_wp2_with fail
                          go_ret
                          exact ⟨rfl, S.out.1⟩
                        · clear z10'
                          go_wp2_with fail
                          go_ret
                          exact ⟨rfl, S.out.1⟩
                      · have z13' : (f q == 13) = false := by simp; omega
                        go_wp2_with fail
                        go_ret
                        exact ⟨rfl, S.out.1⟩
                    · go_wp2_with fail
                      go_ret
                      exact ⟨rfl, S.out.1⟩
              · exact absurd (.inl ⟨hkl, e10⟩ : lfAt f len k' ∨ crAt f len k') (by rintro (h | h); exact n1 h; exact n2 h)
            · have z10 : (f k == 10) = false := by simp; omega
              by_cases e13 : f k = 13
              · rw [e13] at hx
                by_cases hk1l : k + 1 < len
                · have hy := (R.out.2.2 (k + 1) hk1l).2.2
                  have m1 : (0 : Int) ≤ (k : Int) + 1 := by omega
                  have m2 : (k : Int) + 1 < (len : Int) := by omega
                  by_cases ey : f (k + 1) = 10
                  · rw [ey] at hy
                    go_wp2_with fail
                    refine (zz16_any hn hgl R.out.2.2 hlt hl).mono ?_
                    rintro r w2 ⟨hb2, k', hsk, hres⟩
                    obtain rfl := hsk.unique HK.out
                    rcases hres with ⟨q, c, rfl, _, hstr, hc1, e1, e2, e3⟩ | ⟨rfl, n1, n2⟩
                    · obtain ⟨q1, q2, q3, q4⟩ := hstr.facts (by omega)
                      have hcle := cnt_le f (p + 1) (q - (p + 1))
                      rw [q3] at hcle
                      have hq : p + 1 < q := by omega
                      have hsub := lineAt_sub line c (by omega)
                      have S := hide' (And.intro (R.out.1.trans (hb2.mono R.out.1.size)) (And.intro e1 (And.intro e2 (And.intro e3 (And.intro q3 q4)))))
                      have cells2 : ∀ j, j < len → w2.cell? ⟨w'.heap.size, j, none⟩ = some (.int .u8 (f j)) := fun j hj => (hb2.cell (p := ⟨w'.heap.size, j, none⟩) hgl).trans (R.out.2.2 j hj).2.2
                      have C2 := hide' cells2
                      have hcn : c ≤ 1048576 := by omega
                      have t1 : decide (len < q) = false := by simp; omega
                      have t2 : decide ((q : Int) ≤ (p : Int) + 1) = false := by simp; omega
                      have t3 : decide ((len : Int) < (q : Int)) = false := by simp; omega
                      generalize lineAt line c = L at hsub ⊢
                      clear hy hb2 hsk e1 e2 e3 q3 q4 hstr cells2 hcle hx
                      go_wp2_with fail
                      go_loop [12, 13] (fun a i => ∃ j M : Nat, i = .int .i64 (j : Int) ∧ a = .int .i64 (M : Int) ∧ p + 1 ≤ j ∧ j ≤ q ∧ Hid (M = cnt f (p + 1) (j - (p + 1)))) (fun _ i => q - (intOf i).toNat)
                      case atStart => exact ⟨p + 1, 0, by go_num, rfl, Nat.le_refl _, by omega, by simp [Hid, cnt]⟩
                      case round =>
                        obtain ⟨i, M, rfl, rfl, hi1, hi2, hM⟩ := hrel
                        have hMb : M ≤ 1048576 := by have := hM.out; have := cnt_le f (p + 1) (i - (p + 1)); omega
                        by_cases hiq : i < q
                        · have hz := C2.out i (by omega)
                          have w1' : (0 : Int) ≤ (i : Int) := by omega
                          have w2' : (i : Int) < (len : Int) := by omega
                          have w3' : (i : Int) < (q : Int) := by omega
                          have hcs := cnt_step f hi1
                          rcases S.out.2.2.2.2.2 i hi1 hiq with g | g | g
                          · rw [if_pos g, ← hM.out] at hcs
                            have HC := hide' hcs
                            rw [g] at hz
                            clear hcs g
                            go_wp2_with fail
                            go_round
                            case rel => exact ⟨i + 1, M + 1, by go_num, by go_num, by omega, by omega, HC.out.symm⟩
                            case measure => simp [intOf]; omega
                          · obtain ⟨g, g2, g3⟩ := g
                            rw [if_neg (by omega), ← hM.out] at hcs
                            have HC := hide' hcs
                            have hz2 := C2.out (i + 1) (by omega)
                            have w4' : (0 : Int) ≤ (i : Int) + 1 := by omega
                            have w5' : (i : Int) + 1 < (len : Int) := by omega
                            have w6' : (i : Int) + 1 < (q : Int) := by omega
                            rw [g] at hz
                            rw [g3] at hz2
                            clear hcs g g3
                            go_wp2_with fail
                            go_round
                            case rel => exact ⟨i + 1, M, by go_num, rfl, by omega, by omega, HC.out.symm⟩
                            case measure => simp [intOf]; omega
                          · have z10' : (f i == 10) = false := by rcases g with h | h <;> rw [h] <;> rfl
                            have z13' : (f i == 13) = false := by rcases g with h | h <;> rw [h] <;> rfl
                            rw [if_neg (by rcases g with h | h <;> omega), ← hM.out] at hcs
                            have HC := hide' hcs
                            have HG := hide' g
                            clear hcs g
                            go_wp2_with fail
                            have A := isBlank_any (f i) w2
                            rw [decide_eq_true HG.out] at A
                            refine A.mono ?_
                            rintro r _ ⟨rfl, rfl⟩
                            clear A
                            go_wp2_with fail
                            go_round
                            case rel => exact ⟨i + 1, M, by go_num, rfl, by omega, by omega, HC.out.symm⟩
                            case measure => simp [intOf]; omega
                        · obtain rfl : q = i := by omega
                          obtain rfl : M = c := hM.out.trans S.out.2.2.2.2.1
                          by_cases hql : q < len
                          · have hz := C2.out q hql
                            have w1' : (0 : Int) ≤ (q : Int) := by omega
                            have w2' : (q : Int) < (len : Int) := by omega
                            have z10' : (f q == 10) = false := by simp; exact fun h => S.out.2.1 ⟨hql, h⟩
                            go_wp2_with fail
                            have A := isBlank_any (f q) w2
                            rw [decide_eq_false (S.out.2.2.2.1 hql)] at A
                            refine A.mono ?_
                            rintro r _ ⟨rfl, rfl⟩
                            clear A
                            by_cases e13' : f q = 13
                            · rw [e13'] at hz
                              by_cases hq1 : q + 1 < len
                              · have hz2 := C2.out (q + 1) hq1
                                have w4' : (0 : Int) ≤ (q : Int) + 1 := by omega
                                have w5' : (q : Int) + 1 < (len : Int) := by omega
                                have zz : (f (q + 1) == 10) = false := by simp; exact fun h => S.out.2.2.1 ⟨hq1, e13', h⟩
                                clear z10'
                                go_wp2_with fail
                                go_ret
                                exact ⟨rfl, S.out.1⟩
                              · clear z10'
                                go_wp2_with fail
                                go_ret
                                exact ⟨rfl, S.out.1⟩
                            · have z13' : (f q == 13) = false := by simp; omega
                              go_wp2_with fail
                              go_ret
                              exact ⟨rfl, S.out.1⟩
                          · go_wp2_with fail
                            go_ret
                            exact ⟨rfl, S.out.1⟩
                    · exact absurd (.inr ⟨hk1l, e13, ey⟩ : lfAt f len k' ∨ crAt f len k') (by rintro (h | h); exact n1 h; exact n2 h)
                  · have zy : (f (k + 1) == 10) = false := by simp; omega
                    go_wp2_with fail
                    refine (zz16_any hn hgl R.out.2.2 hlt hl).mono ?_
                    rintro r w2 ⟨hb2, k', hsk, hres⟩
                    obtain rfl := hsk.unique HK.out
                    rcases hres with ⟨q, c, rfl, hlf, _⟩ | ⟨rfl, _, _⟩
                    · exact absurd hlf (by rintro (h | h); exact e10 h.2; exact ey h.2.2)
                    · have FIN := hide' (R.out.1.trans (hb2.mono R.out.1.size))
                      clear hb2 hsk
                      go_wp2_with fail
                      go_ret
                      exact ⟨rfl, FIN.out⟩
                · go_wp2_with fail
                  refine (zz16_any hn hgl R.out.2.2 hlt hl).mono ?_
                  rintro r w2 ⟨hb2, k', hsk, hres⟩
                  obtain rfl := hsk.unique HK.out
                  rcases hres with ⟨q, c, rfl, hlf, _⟩ | ⟨rfl, _, _⟩
                  · exact absurd hlf (by rintro (h | h); exact e10 h.2; exact hk1l h.1)
                  · have FIN := hide' (R.out.1.trans (hb2.mono R.out.1.size))
                    clear hb2 hsk
                    go_wp2_with fail
                    go_ret
                    exact ⟨rfl, FIN.out⟩
              · have z13 : (f k == 13) = false := by simp; omega
                go_wp2_with fail
                refine (zz16_any hn hgl R.out.2.2 hlt hl).mono ?_
                rintro r w2 ⟨hb2, k', hsk, hres⟩
                obtain rfl := hsk.unique HK.out
                rcases hres with ⟨q, c, rfl, hlf, _⟩ | ⟨rfl, _, _⟩
                · exact absurd hlf (by rintro (h | h); exact e10 h.2; exact e13 h.2.1)
                · have FIN := hide' (R.out.1.trans (hb2.mono R.out.1.size))
                  clear hb2 hsk
                  go_wp2_with fail
                  go_ret
                  exact ⟨rfl, FIN.out⟩
        · obtain rfl : len = k := by omega
          have HK : Hid (Skip f len (p + 1) len) := ⟨hk1, hk2, HA.out, fun h => absurd h hkl⟩
          go_wp2_with fail
          refine (zz16_any hn hgl R.out.2.2 hlt hl).mono ?_
          rintro r w2 ⟨hb2, k', hsk, hres⟩
          obtain rfl := hsk.unique HK.out
          rcases hres with ⟨q, c, rfl, hlf, _⟩ | ⟨rfl, _, _⟩
          · exact absurd hlf (by rintro (h | h); exact hkl h.1; have := h.1; omega)
          · have FIN := hide' (R.out.1.trans (hb2.mono R.out.1.size))
            clear hb2 hsk
            go_wp2_with fail
            go_ret
            exact ⟨rfl, FIN.out⟩
    · have y : (f p == 92) = false := by simp; omega
      go_wp2_with fail
      go_ret
      exact ⟨rfl, Below.refl _ _⟩
end Go.Proofs.Qxb6002372a
