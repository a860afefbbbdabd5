/-
  graphFits.
-/
import Derived.Test.Qxb6001346aSmall
set_option linter.all false
namespace Go.Proofs.Qxb6001346a
open Go.RowKit Tj

theorem drewN2 (w : World) (a b : Nat) : ∃ q, (w.drewN a).drewN b = w.drewN q := ⟨a + b, by simp⟩
/-- What graphFits leaves: an answer; yes only where the graph fits; the world but for draws. -/
def FitsPost (l0 l1 l2 : Nat) (f0 f1 : Nat → Int) (w : World) (e : Ending) (w' : World) : Prop := (∃ b, e = .returned (.bool b) ∧ (b = true → Fits l0 l1 l2 f0 f1)) ∧ ∃ q, w' = w.drewN q

set_option maxRecDepth 100000 in
set_option maxHeartbeats 1000000 in
theorem graphFits_main (b0 o0 n c0 : Nat) (a1 : Option Addr) (l1 c1 : Nat) (a2 : Option Addr) (c2 : Nat) (f0 f1 : Nat → Int) (w : World) (h0' : n + 1 ≤ 4097) (h1 : l1 ≤ 4096)
    (hc0 : ∀ i, i < n + 1 → w.cell? ⟨b0, o0 + i, none⟩ = some (.int .i32 (f0 i))) (hc1 : 0 < l1 → ∃ b1 o1, a1 = some ⟨b1, o1, none⟩ ∧ ∀ i, i < l1 → w.cell? ⟨b1, o1 + i, none⟩ = some (.int .i32 (f1 i)))
    (hr0 : ∀ i, i < n + 1 → (-2147483648 ≤ f0 i ∧ f0 i ≤ 2147483647)) (hr1 : ∀ i, i < l1 → (-2147483648 ≤ f1 i ∧ f1 i ≤ 2147483647)) (t0 : (f0 0 != 0) = false) (t1 : (f0 n != (l1 : Int)) = false) :
    Calls Try.prog 13 #[.slice (some ⟨b0, o0, none⟩) (n + 1) c0, .slice a1 l1 c1, .slice a2 l1 c2] w (FitsPost (n + 1) l1 l1 f0 f1 w) := by
  have HC1 : Hid (0 < l1 → ∃ b1 o1, a1 = some ⟨b1, o1, none⟩ ∧ ∀ i, i < l1 → w.cell? ⟨b1, o1 + i, none⟩ = some (.int .i32 (f1 i))) := hc1
  have HR0 : Hid (∀ i, i < n + 1 → (-2147483648 ≤ f0 i ∧ f0 i ≤ 2147483647)) := hr0
  have HR1 : Hid (∀ i, i < l1 → (-2147483648 ≤ f1 i ∧ f1 i ≤ 2147483647)) := hr1
  have HC0 : Hid (∀ i, i < n + 1 → w.cell? ⟨b0, o0 + i, none⟩ = some (.int .i32 (f0 i))) := hc0
  have hz := hc0 0 (by omega)
  have hn := hc0 n (by omega)
  rw [Nat.add_zero] at hz
  have rn := hr0 n (by omega)
  clear hc1 hr0 hr1 hc0
  go_enter Try.func13, Try.ntmps13
  go_wp2
  have T0 : Hid (f0 0 = 0) := show f0 0 = 0 by simpa using t0
  have T1 : Hid (f0 n = (l1 : Int)) := show f0 n = (l1 : Int) by simpa using t1
  clear t0 t1 hz hn rn
  go_loopw [8] (fun i wr => ∃ k : Nat, k ≤ n ∧ i = .int .i64 k ∧ (∀ j, j < k → f0 j ≤ f0 (j + 1)) ∧ ∃ q, wr = w.drewN q) (fun i _ => n - (intOf i).toNat)
  case atStart => exact ⟨0, Nat.zero_le _, rfl, fun j hj => by omega, 0, rfl⟩
  case round =>
    obtain ⟨k, hk, rfl, hm, q, rfl⟩ := hrel
    have HM : Hid (∀ j, j < k → f0 j ≤ f0 (j + 1)) := hm
    clear hm
    by_cases hlt : k < n
    · have hx := HC0.out k (by omega)
      have hy := HC0.out (k + 1) (by omega)
      have g1 : (0 : Int) ≤ (k : Int) := by omega
      have g2 : (k : Int) < (n : Int) + 1 := by omega
      have g3 : (k : Int) + 1 < (n : Int) + 1 := by omega
      by_cases hgt : f0 (k + 1) < f0 k
      · go_wp2
        go_quiet (fail)
        go_wp2
        go_ret
        exact ⟨⟨false, rfl, by simp⟩, drewN2 _ _ _⟩
      · have hgt' : decide (f0 (k + 1) < f0 k) = false := by simpa using hgt
        go_wp2
        go_quiet (fail)
        go_wp2
        go_roundw
        case rel =>
          refine ⟨k + 1, by omega, by go_num, fun j hj => ?_, _, rfl⟩
          by_cases e : j = k
          · subst e; omega
          · exact HM.out j (by omega)
        case measure => simp [intOf]; omega
    · have HM' : Hid (∀ j, j < n → f0 j ≤ f0 (j + 1)) := fun j hj => HM.out j (by omega)
      clear HM
      go_wp2
      go_loopw [9] (fun i wr => ∃ k : Nat, k ≤ l1 ∧ i = .int .i64 k ∧ (∀ j, j < k → 0 ≤ f1 j ∧ f1 j < (n : Int)) ∧ ∃ q, wr = w.drewN q) (fun i _ => l1 - (intOf i).toNat)
      case atStart => exact ⟨0, Nat.zero_le _, rfl, fun j hj => by omega, _, rfl⟩
      case round =>
        obtain ⟨m, hm, rfl, hmm, q2, rfl⟩ := hrel
        have HM : Hid (∀ j, j < m → 0 ≤ f1 j ∧ f1 j < (n : Int)) := hmm
        clear hmm
        by_cases hlm : m < l1
        · obtain ⟨b1, o1, ha1, hcc⟩ := HC1.out (by omega)
          have hx := hcc m hlm
          have hrr := HR1.out m hlm
          subst ha1
          clear hcc
          go_wp2
          · go_ret
            exact ⟨⟨false, rfl, by simp⟩, _, rfl⟩
          · go_roundw
            case rel =>
              refine ⟨m + 1, by omega, by go_num, fun j hj => ?_, _, rfl⟩
              by_cases e : j = m
              · subst e; assumption
              · exact HM.out j (by omega)
            case measure => simp [intOf]; omega
          · go_ret
            exact ⟨⟨false, rfl, by simp⟩, _, rfl⟩
        · have HM2 : Hid (∀ j, j < l1 → 0 ≤ f1 j ∧ f1 j < (n : Int)) := fun j hj => HM.out j (by omega)
          go_wp2
          go_ret
          exact ⟨⟨true, rfl, fun _ => ⟨by omega, h1, rfl, T0.out, T1.out, HM'.out, HM2.out⟩⟩, _, rfl⟩


set_option maxRecDepth 100000 in
set_option maxHeartbeats 1000000 in
theorem graphFits_no (b0 o0 n c0 : Nat) (a1 : Option Addr) (l1 c1 : Nat) (a2 : Option Addr) (c2 : Nat) (f0 f1 : Nat → Int) (w : World) (h0' : n + 1 ≤ 4097) (h1 : l1 ≤ 4096)
    (hz : w.cell? ⟨b0, o0, none⟩ = some (.int .i32 (f0 0))) (hn : w.cell? ⟨b0, o0 + n, none⟩ = some (.int .i32 (f0 n))) (rn : -2147483648 ≤ f0 n ∧ f0 n ≤ 2147483647)
    (t : (f0 0 != 0) = true ∨ ((f0 0 != 0) = false ∧ (f0 n != (l1 : Int)) = true)) :
    Calls Try.prog 13 #[.slice (some ⟨b0, o0, none⟩) (n + 1) c0, .slice a1 l1 c1, .slice a2 l1 c2] w (FitsPost (n + 1) l1 l1 f0 f1 w) := by
  rcases t with t0 | ⟨t0, t1⟩
  · go_enter Try.func13, Try.ntmps13
    go_wp2
    go_ret
    exact ⟨⟨false, rfl, by simp⟩, 0, rfl⟩
  · go_enter Try.func13, Try.ntmps13
    go_wp2
    go_ret
    exact ⟨⟨false, rfl, by simp⟩, 0, rfl⟩

set_option maxRecDepth 100000 in
set_option maxHeartbeats 1000000 in
theorem graphFits_len (a0 : Option Addr) (l0 c0 : Nat) (a1 : Option Addr) (l1 c1 : Nat) (a2 : Option Addr) (l2 c2 : Nat) (f0 f1 : Nat → Int) (w : World) (m0 : l0 ≤ 4097) (m1 : l1 ≤ 4096) (m2 : l2 ≤ 4096) (h : l0 < 1 ∨ (1 ≤ l0 ∧ ((l2 : Int) != (l1 : Int)) = true)) :
    Calls Try.prog 13 #[.slice a0 l0 c0, .slice a1 l1 c1, .slice a2 l2 c2] w (FitsPost l0 l1 l2 f0 f1 w) := by
  rcases h with h | ⟨h, h'⟩
  · go_enter Try.func13, Try.ntmps13
    go_wp2
    go_ret
    exact ⟨⟨false, rfl, by simp⟩, 0, rfl⟩
  · go_enter Try.func13, Try.ntmps13
    go_wp2
    go_ret
    exact ⟨⟨false, rfl, by simp⟩, 0, rfl⟩

theorem graphFits_any (a0 : Option Addr) (l0 c0 : Nat) (a1 : Option Addr) (l1 c1 : Nat) (a2 : Option Addr) (l2 c2 : Nat) (f0 f1 : Nat → Int) (w : World) (m0 : l0 ≤ 4097) (m1 : l1 ≤ 4096) (m2 : l2 ≤ 4096)
    (s0 : SIn w .i32 a0 l0 f0) (s1 : SIn w .i32 a1 l1 f1) (hr0 : ∀ i, i < l0 → (-2147483648 ≤ f0 i ∧ f0 i ≤ 2147483647)) (hr1 : ∀ i, i < l1 → (-2147483648 ≤ f1 i ∧ f1 i ≤ 2147483647)) :
    Calls Try.prog 13 #[.slice a0 l0 c0, .slice a1 l1 c1, .slice a2 l2 c2] w (FitsPost l0 l1 l2 f0 f1 w) := by
  by_cases h0 : l0 < 1
  · exact graphFits_len a0 l0 c0 a1 l1 c1 a2 l2 c2 f0 f1 w m0 m1 m2 (.inl h0)
  · by_cases h2 : l2 = l1
    · subst h2
      obtain ⟨b0, o0, rfl, _, hc0⟩ := s0 (by omega)
      obtain ⟨n, rfl⟩ : ∃ n, l0 = n + 1 := ⟨l0 - 1, by omega⟩
      have hc1 : 0 < l2 → ∃ b1 o1, a1 = some ⟨b1, o1, none⟩ ∧ ∀ i, i < l2 → w.cell? ⟨b1, o1 + i, none⟩ = some (.int .i32 (f1 i)) := by
        intro hl
        obtain ⟨b1, o1, e1, _, hh⟩ := s1 hl
        exact ⟨b1, o1, e1, hh⟩
      have hz := hc0 0 (by omega)
      rw [Nat.add_zero] at hz
      cases t0 : (f0 0 != 0) with
      | true => exact graphFits_no b0 o0 n c0 a1 l2 c1 a2 c2 f0 f1 w m0 m1 hz (hc0 n (by omega)) (hr0 n (by omega)) (.inl t0)
      | false =>
        cases t1 : (f0 n != (l2 : Int)) with
        | true => exact graphFits_no b0 o0 n c0 a1 l2 c1 a2 c2 f0 f1 w m0 m1 hz (hc0 n (by omega)) (hr0 n (by omega)) (.inr ⟨t0, t1⟩)
        | false => exact graphFits_main b0 o0 n c0 a1 l2 c1 a2 c2 f0 f1 w m0 m1 hc0 hc1 hr0 hr1 t0 t1
    · exact graphFits_len a0 l0 c0 a1 l1 c1 a2 l2 c2 f0 f1 w m0 m1 m2 (.inr ⟨by omega, by rw [bne_iff_ne]; omega⟩)

end Go.Proofs.Qxb6001346a
