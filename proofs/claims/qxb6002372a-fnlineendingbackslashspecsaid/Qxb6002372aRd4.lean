/-
  The reader: lineEndingBackslash.
-/
import Derived.Test.Qxb6002372aRd3
import Derived.Lib.SlBytesConst
set_option linter.all false
namespace Go.Proofs.Qxb6002372a
open Go.RowKit

/-- What lineEndingBackslash does. -/
def LePost (w : World) (br bD n pos : Nat) (line : Int) (f : Nat → Int) (r : Ending) (w' : World) : Prop :=
  Below br w w' ∧ ∃ k, Skip f n (pos + 1) k ∧
    ((r = .returned (.bool true) ∧ (lfAt f n k ∨ crAt f n k) ∧ ∃ q c, Str f n (pos + 1) q c ∧ 1 ≤ c ∧ ¬ lfAt f n q ∧ ¬ crAt f n q ∧ (q < n → ¬ blank (f q)) ∧ IsR w' br bD n q (lineAt line c)) ∨
     (r = .returned (.bool false) ∧ ¬ lfAt f n k ∧ ¬ crAt f n k ∧ IsR w' br bD n pos line))

/-- Ahead of each round of the second loop. -/
structure L2 (w0 : World) (br bD n pos k : Nat) (line : Int) (f : Nat → Int) (wr : World) (q c : Nat) : Prop where
  str : Str f n (pos + 1) q c
  le : q ≤ n
  one : 1 ≤ c ∨ q = k
  end' : q < n → ¬ blank (f q)
  isR : IsR wr br bD n q (lineAt line c)
  bel : Below br w0 wr
  data : DataAt wr br bD n f

theorem L2.step {w0 wr w2 w3 : World} {br bD n pos k : Nat} {line : Int} {f : Nat → Int} {q c q' k' : Nat} (h : L2 w0 br bD n pos k line f wr q c)
    (hs : Str f n (pos + 1) q' (c + 1)) (hsk : Skip f n q' k') (hi : IsR w3 br bD n k' (lineAt line (c + 1))) (hb2 : Below br wr w2) (hb3 : Below br w2 w3) : L2 w0 br bD n pos k line f w3 k' (c + 1) :=
  ⟨hs.of_blanks hsk.1 hsk.2.1 hsk.2.2.1, hsk.2.1, .inl (by omega), hsk.2.2.2, hi, h.bel.trans (hb2.trans hb3), (h.data.below hb2).below hb3⟩

theorem pre_lf_at {W : World} {br bD n k : Nat} {f : Nat → Int} (hd : DataAt W br bD n f) (lt : br < W.heap.size) (hk : k ≤ n) (o : Nat) (ho : k < n → o = k) :
    Calls Try.prog 55 #[.slice (some ⟨bD, o, none⟩) (n - k) (n - k), .slice (some ⟨W.heap.size, 0, none⟩) 1 1] (W.alloc (Obj.cells #[.int .u8 10] 5 (1, 2))) fun e w' => e = .returned (.bool (decide (k < n ∧ f k = 10))) ∧ Below W.heap.size W w' := by
  have hb : Below W.heap.size W (W.alloc (Obj.cells #[.int .u8 10] 5 (1, 2))) := (Below.refl _ _).alloc (Nat.le_refl _) _
  have := pre_rest (hd.below (hb.mono (Nat.le_of_lt lt))) hk o ho W.heap.size 1 1 [10] rfl (fun i hi => by
    obtain rfl : i = 0 := by omega
    exact World.cell?_alloc_mark W _ _ _ _)
  rw [lf_tail f n k (fun j hj => ⟨(hd.2.2 j hj).1, (hd.2.2 j hj).2.1⟩)] at this
  refine this.mono ?_
  rintro e w' ⟨rfl, rfl⟩
  exact ⟨rfl, hb⟩
theorem pre_crlf_at {W : World} {br bD n k : Nat} {f : Nat → Int} (hd : DataAt W br bD n f) (lt : br < W.heap.size) (hk : k ≤ n) (o : Nat) (ho : k < n → o = k) :
    Calls Try.prog 55 #[.slice (some ⟨bD, o, none⟩) (n - k) (n - k), .slice (some ⟨W.heap.size, 0, none⟩) 2 2] (W.alloc (Obj.cells #[.int .u8 13, .int .u8 10] 5 (2, 3))) fun e w' => e = .returned (.bool (decide (k + 1 < n ∧ f k = 13 ∧ f (k + 1) = 10))) ∧ Below W.heap.size W w' := by
  have hb : Below W.heap.size W (W.alloc (Obj.cells #[.int .u8 13, .int .u8 10] 5 (2, 3))) := (Below.refl _ _).alloc (Nat.le_refl _) _
  have := pre_rest (hd.below (hb.mono (Nat.le_of_lt lt))) hk o ho W.heap.size 2 2 [13, 10] rfl (fun i hi => by
    obtain rfl | rfl : i = 0 ∨ i = 1 := by omega
    all_goals exact World.cell?_alloc_mark W _ _ _ _)
  rw [crlf_tail f n k (fun j hj => ⟨(hd.2.2 j hj).1, (hd.2.2 j hj).2.1⟩)] at this
  refine this.mono ?_
  rintro e w' ⟨rfl, rfl⟩
  exact ⟨rfl, hb⟩

set_option maxRecDepth 100000 in
set_option maxHeartbeats 2000000 in
theorem lineEnding_any {w : World} {br bD n pos : Nat} {line : Int} {f : Nat → Int} (h : IsR w br bD n pos line) (hd : DataAt w br bD n f) (hp : pos < n) (hl : -9223372036854775808 ≤ line ∧ line ≤ 9223372036854775807) :
    Calls Try.prog 45 #[.pointer (some ⟨br, 0, none⟩)] w (LePost w br bD n pos line f) := by
  have hmax := hd.2.1
  have lt := h.lt
  have H : Hid (IsR w br bD n pos line ∧ DataAt w br bD n f) := ⟨h, hd⟩
  obtain ⟨c0, c1, c2⟩ := h.c
  have kc := fun (w : World) (C : Array Value) (n c : Nat) => Lib.run_convert_bytes_const (P := Try.prog) w 22 5 C n c Try.underlying22 Try.underlying5
  clear h hd c2
  go_enter Try.func45, Try.ntmps45
  go_wp2_with fail
  go_loop [3] (fun i => ∃ k : Nat, i = .int .i64 (k : Int) ∧ pos + 1 ≤ k ∧ k ≤ n ∧ ∀ j, pos + 1 ≤ j → j < k → blank (f j)) (fun i => n - (intOf i).toNat)
  case atStart => exact ⟨pos + 1, by go_num, Nat.le_refl _, by omega, fun j h1 h2 => by omega⟩
  case round =>
    obtain ⟨k, rfl, hk1, hk2, hall⟩ := hrel
    have HA : Hid (∀ j, pos + 1 ≤ j → j < k → blank (f j)) := hall
    clear hall
    by_cases hlt : k < n
    · have hcell := (H.out.2.2.2 k hlt).2.2
      have i1 : (0 : Int) ≤ (k : Int) := by omega
      have i2 : (k : Int) < (n : Int) := by omega
      by_cases e1 : f k = 32
      · rw [e1] at hcell
        go_wp2_with fail
        go_round
        case rel =>
          refine ⟨k + 1, by go_num, by omega, by omega, fun j a b => ?_⟩
          by_cases e : j = k
          · rw [e]; exact .inl e1
          · exact HA.out j a (by omega)
        case measure => simp [intOf]; omega
      · by_cases e2 : f k = 9
        · rw [e2] at hcell
          go_wp2_with fail
          go_round
          case rel =>
            refine ⟨k + 1, by go_num, by omega, by omega, fun j a b => ?_⟩
            by_cases e : j = k
            · rw [e]; exact .inr e2
            · exact HA.out j a (by omega)
          case measure => simp [intOf]; omega
        · have y1 : (f k == 32) = false := by simp; omega
          have y2 : (f k == 9) = false := by simp; omega
          have H2 : Hid (¬ blank (f k)) := by rintro (h | h) <;> omega
          clear e1 e2
          go_wp2_with fail
          have A := pre_lf_at H.out.2 lt hk2 k (fun _ => rfl)
          by_cases hL : lfAt f n k
          · rw [decide_eq_true (show k < n ∧ f k = 10 from hL)] at A
            refine A.mono ?_
            rintro r w2 ⟨rfl, hb⟩
            have h2 : IsR w2 br bD n pos line := H.out.1.below hb lt
            clear A kc
            have h5 : L2 w br bD n pos k line f (w2.setCell ⟨br, 1, none⟩ (.int .i64 (k : Int))) k 0 := ⟨Str.nil.of_blanks hk1 hk2 HA.out, hk2, .inr rfl, fun _ => H2.out, by rw [lineAt_zero line hl]; exact h2.setPos k, (hb.mono (Nat.le_of_lt lt)).setCell (Nat.le_refl _) _, H.out.2.below ((hb.mono (Nat.le_of_lt lt)).setCell (Nat.le_refl _) _)⟩
            obtain ⟨d0, d1, d2⟩ := h2.c
            have g1 := h2.fr 1
            have HS := hide' h5
            have HN : Hid (lfAt f n k ∨ crAt f n k) := .inl hL
            have HK : Hid (Skip f n (pos + 1) k) := ⟨hk1, hk2, HA.out, fun _ => H2.out⟩
            clear h5 hb h2 c0 c1 hcell
            go_wp2_with fail
            clear d0 d1 d2 g1
            go_loopw [] (fun wr => ∃ q c, L2 w br bD n pos k line f wr q c) (fun wr => n - posOf wr br)
            case atStart => exact ⟨k, 0, HS.out⟩
            case round =>
              obtain ⟨q, c, S⟩ := hrel
              have HQ := hide' S
              clear S
              go_wp2_with fail
              refine (newline_any HQ.out.isR HQ.out.data HQ.out.le).mono ?_
              rintro r w3 ⟨hb3, ⟨rfl, hcase⟩ | ⟨rfl, n1, n2, h3⟩⟩
              · obtain ⟨q', hq, hs, hle, h3⟩ : ∃ q', q < q' ∧ Str f n (pos + 1) q' (c + 1) ∧ q' ≤ n ∧ IsR w3 br bD n q' (lineAt line (c + 1)) := by
                  rcases hcase with ⟨a, b⟩ | ⟨a, b⟩
                  · exact ⟨q + 1, by omega, .lf HQ.out.str a, a.1, by rw [← lineAt_succ]; exact b⟩
                  · exact ⟨q + 2, by omega, .crlf HQ.out.str a, a.1, by rw [← lineAt_succ]; exact b⟩
                have H3 := hide' (And.intro hb3 (And.intro hs h3))
                clear hb3 hs h3 hcase
                go_wp2_with fail
                refine (skip_any H3.out.2.2 (HQ.out.data.below H3.out.1) hle).mono ?_
                rintro r w4 ⟨rfl, k', hsk, h4, hb4⟩
                have H4 := hide' (HQ.out.step H3.out.2.1 hsk h4 H3.out.1 hb4)
                have hq' := hsk.1
                have hkn := hsk.2.1
                clear hsk h4 hb4
                go_wp2_with fail
                go_roundw
                case rel => exact ⟨k', c + 1, H4.out⟩
                case measure =>
                  rw [H4.out.isR.posOf, HQ.out.isR.posOf]
                  omega
              · have hone : 1 ≤ c := by
                  rcases HQ.out.one with h | h
                  · exact h
                  · subst h
                    rcases HN.out with h | h
                    · exact absurd h n1
                    · exact absurd h n2
                have H3 := hide' (And.intro hb3 (And.intro n1 (And.intro n2 h3)))
                clear hb3 n1 n2 h3
                go_wp2_with fail
                go_ret
                exact ⟨HQ.out.bel.trans H3.out.1, k, HK.out, .inl ⟨rfl, HN.out, q, c, HQ.out.str, hone, H3.out.2.1, H3.out.2.2.1, HQ.out.end', H3.out.2.2.2⟩⟩
          · rw [decide_eq_false (show ¬ (k < n ∧ f k = 10) from hL)] at A
            refine A.mono ?_
            rintro r w1 ⟨rfl, hb1⟩
            have hsz := hb1.size
            have HB1 := hide' hb1
            clear A hb1
            go_wp2_with fail
            have A := pre_crlf_at (H.out.2.below (HB1.out.mono (Nat.le_of_lt lt))) (Nat.lt_of_lt_of_le lt hsz) hk2 k (fun _ => rfl)
            by_cases hC : crAt f n k
            · rw [decide_eq_true (show k + 1 < n ∧ f k = 13 ∧ f (k + 1) = 10 from hC)] at A
              refine A.mono ?_
              rintro r w2 ⟨rfl, hb2⟩
              have hb : Below w.heap.size w w2 := HB1.out.trans (hb2.mono hsz)
              have h2 : IsR w2 br bD n pos line := H.out.1.below hb lt
              clear A kc hb2
              have h5 : L2 w br bD n pos k line f (w2.setCell ⟨br, 1, none⟩ (.int .i64 (k : Int))) k 0 := ⟨Str.nil.of_blanks hk1 hk2 HA.out, hk2, .inr rfl, fun _ => H2.out, by rw [lineAt_zero line hl]; exact h2.setPos k, (hb.mono (Nat.le_of_lt lt)).setCell (Nat.le_refl _) _, H.out.2.below ((hb.mono (Nat.le_of_lt lt)).setCell (Nat.le_refl _) _)⟩
              obtain ⟨d0, d1, d2⟩ := h2.c
              have g1 := h2.fr 1
              have HS := hide' h5
              have HN : Hid (lfAt f n k ∨ crAt f n k) := .inr hC
              have HK : Hid (Skip f n (pos + 1) k) := ⟨hk1, hk2, HA.out, fun _ => H2.out⟩
              clear h5 hb h2 c0 c1 hcell
              go_wp2_with fail
              clear d0 d1 d2 g1
              go_loopw [] (fun wr => ∃ q c, L2 w br bD n pos k line f wr q c) (fun wr => n - posOf wr br)
              case atStart => exact ⟨k, 0, HS.out⟩
              case round =>
                obtain ⟨q, c, S⟩ := hrel
                have HQ := hide' S
                clear S
                go_wp2_with fail
                refine (newline_any HQ.out.isR HQ.out.data HQ.out.le).mono ?_
                rintro r w3 ⟨hb3, ⟨rfl, hcase⟩ | ⟨rfl, n1, n2, h3⟩⟩
                · obtain ⟨q', hq, hs, hle, h3⟩ : ∃ q', q < q' ∧ Str f n (pos + 1) q' (c + 1) ∧ q' ≤ n ∧ IsR w3 br bD n q' (lineAt line (c + 1)) := by
                    rcases hcase with ⟨a, b⟩ | ⟨a, b⟩
                    · exact ⟨q + 1, by omega, .lf HQ.out.str a, a.1, by rw [← lineAt_succ]; exact b⟩
                    · exact ⟨q + 2, by omega, .crlf HQ.out.str a, a.1, by rw [← lineAt_succ]; exact b⟩
                  have H3 := hide' (And.intro hb3 (And.intro hs h3))
                  clear hb3 hs h3 hcase
                  go_wp2_with fail
                  refine (skip_any H3.out.2.2 (HQ.out.data.below H3.out.1) hle).mono ?_
                  rintro r w4 ⟨rfl, k', hsk, h4, hb4⟩
                  have H4 := hide' (HQ.out.step H3.out.2.1 hsk h4 H3.out.1 hb4)
                  have hq' := hsk.1
                  have hkn := hsk.2.1
                  clear hsk h4 hb4
                  go_wp2_with fail
                  go_roundw
                  case rel => exact ⟨k', c + 1, H4.out⟩
                  case measure =>
                    rw [H4.out.isR.posOf, HQ.out.isR.posOf]
                    omega
                · have hone : 1 ≤ c := by
                    rcases HQ.out.one with h | h
                    · exact h
                    · subst h
                      rcases HN.out with h | h
                      · exact absurd h n1
                      · exact absurd h n2
                  have H3 := hide' (And.intro hb3 (And.intro n1 (And.intro n2 h3)))
                  clear hb3 n1 n2 h3
                  go_wp2_with fail
                  go_ret
                  exact ⟨HQ.out.bel.trans H3.out.1, k, HK.out, .inl ⟨rfl, HN.out, q, c, HQ.out.str, hone, H3.out.2.1, H3.out.2.2.1, HQ.out.end', H3.out.2.2.2⟩⟩
            · rw [decide_eq_false (show ¬ (k + 1 < n ∧ f k = 13 ∧ f (k + 1) = 10) from hC)] at A
              refine A.mono ?_
              rintro r w2 ⟨rfl, hb2⟩
              have hb : Below w.heap.size w w2 := HB1.out.trans (hb2.mono hsz)
              have h2 : IsR w2 br bD n pos line := H.out.1.below hb lt
              have FIN := hide' (And.intro h2 (hb.mono (Nat.le_of_lt lt)))
              clear A kc hb2 hb h2
              go_wp2_with fail
              go_ret
              exact ⟨FIN.out.2, k, ⟨hk1, hk2, HA.out, fun _ => H2.out⟩, .inr ⟨rfl, hL, hC, FIN.out.1⟩⟩
    · obtain rfl : n = k := by omega
      go_wp2_with fail
      have A := pre_lf_at H.out.2 lt hk2 0 (fun h => absurd h hlt)
      rw [decide_eq_false (show ¬ (n < n ∧ f n = 10) from fun h => hlt h.1), Nat.sub_self] at A
      refine A.mono ?_
      rintro r w1 ⟨rfl, hb1⟩
      have hsz := hb1.size
      have HB1 := hide' hb1
      clear A hb1
      go_wp2_with fail
      have A := pre_crlf_at (H.out.2.below (HB1.out.mono (Nat.le_of_lt lt))) (Nat.lt_of_lt_of_le lt hsz) hk2 0 (fun h => absurd h hlt)
      rw [decide_eq_false (show ¬ (n + 1 < n ∧ f n = 13 ∧ f (n + 1) = 10) from fun h => by omega), Nat.sub_self] at A
      refine A.mono ?_
      rintro r w2 ⟨rfl, hb2⟩
      have hb : Below w.heap.size w w2 := HB1.out.trans (hb2.mono hsz)
      have h2 : IsR w2 br bD n pos line := H.out.1.below hb lt
      have FIN := hide' (And.intro h2 (hb.mono (Nat.le_of_lt lt)))
      clear A kc hb2 hb h2
      go_wp2_with fail
      go_ret
      exact ⟨FIN.out.2, n, ⟨hk1, hk2, HA.out, fun h => absurd h hlt⟩, .inr ⟨rfl, fun h => hlt h.1, fun h => by have := h.1; omega, FIN.out.1⟩⟩
end Go.Proofs.Qxb6002372a
