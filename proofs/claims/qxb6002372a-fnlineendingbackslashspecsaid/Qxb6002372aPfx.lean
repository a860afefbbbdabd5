/-
  bytes.Equal, bytes.HasPrefix at this program's numbers (after the shelf's two templates), and what HasPrefix says at the two line ends.
-/
import Derived.Test.Qxb6002372aProg
import Derived.WalkKit
import Derived.WalkSpells
import Derived.Lib.Strings
import Derived.Lib.Slices
import Derived.Lib.Walk
import Derived.Lib.Bytes
import Derived.Lib.ConvBytes
import Derived.Laws.BytesArg
set_option linter.all false
namespace Go.Proofs.Qxb6002372a
open Go.RowKit

set_option maxHeartbeats 1000000 in
theorem bytesEqual (v1 v2 : Value) (xs ys : List Int) (w : World)
    (h1 : (convert 22 9 v1).run Try.prog w = .ok (.string (strOfNums xs)) w) (h2 : (convert 22 9 v2).run Try.prog w = .ok (.string (strOfNums ys)) w) :
    Calls Try.prog 58 #[v1, v2] w fun e w' => e = .returned (.bool (Lib.bytesOf xs == Lib.bytesOf ys)) ∧ w' = w := by
  rw [← Lib.strOfNums_toList, ← Lib.strOfNums_toList]
  go_enter Try.func58, Try.ntmps58
  go_wp2
  go_ret
  exact ⟨rfl, rfl⟩

set_option maxRecDepth 100000 in
set_option maxHeartbeats 1000000 in
theorem hasPrefix_any (b1 o1 n c b2 o2 m d : Nat) (xs ys : List Int) (w : World) (hx : xs.length = n) (hy : ys.length = m) (hnc : n ≤ c)
    (hc1 : ∀ i, i < n → w.cell? ⟨b1, o1 + i, none⟩ = some (.int .u8 (xs.getD i 0))) (hc2 : ∀ i, i < m → w.cell? ⟨b2, o2 + i, none⟩ = some (.int .u8 (ys.getD i 0))) :
    Calls Try.prog 55 #[.slice (some ⟨b1, o1, none⟩) n c, .slice (some ⟨b2, o2, none⟩) m d] w fun e w' => e = .returned (.bool (Lib.hasPrefix (Lib.bytesOf xs) (Lib.bytesOf ys))) ∧ w' = w := by
  rw [← Lib.bytes_hasPrefix, hx, hy]
  have g2 := run_convert_bytes_arg (P := Try.prog) w 22 5 Try.underlying22 Try.underlying5 b2 o2 m d ys hy hc2 9 Try.underlying9
  have g1 : m ≤ n → (convert 22 9 (.slice (some ⟨b1, o1, none⟩) m c)).run Try.prog w = .ok (.string (strOfNums (xs.take m))) w := fun h =>
    run_convert_bytes_arg (P := Try.prog) w 22 5 Try.underlying22 Try.underlying5 b1 o1 m c (xs.take m) (by simp; omega) (fun i hi => by rw [Lib.getD_take _ _ _ hi]; exact hc1 i (by omega)) 9 Try.underlying9
  go_enter Try.func55, Try.ntmps55
  go_wp2_with (go_at_call 58; refine (bytesEqual _ _ (xs.take m) ys _ (g1 (by assumption)) g2).mono ?_; rintro e w' ⟨rfl, rfl⟩)
  · have h : m ≤ n := by assumption
    go_ret
    refine ⟨?_, rfl⟩
    rw [decide_eq_true h, Bool.true_and]
    rfl
  · have h : ¬ m ≤ n := by assumption
    go_ret
    refine ⟨?_, rfl⟩
    rw [decide_eq_false h, Bool.false_and]
    rfl

theorem u8_eq (x : Int) (k : Nat) (h0 : 0 ≤ x) (h1 : x ≤ 255) (hk : k ≤ 255) : (UInt8.ofNat k == UInt8.ofNat x.toNat) = decide (x = k) := by
  by_cases h : x = k
  · subst h; simp
  · rw [decide_eq_false h, beq_eq_false_iff_ne]
    intro e
    have := congrArg UInt8.toNat e
    simp at this
    omega

theorem pre_lf (xs : List Int) (hb : ∀ x ∈ xs, 0 ≤ x ∧ x ≤ 255) : Lib.hasPrefix (Lib.bytesOf xs) (Lib.bytesOf [10]) = (decide (0 < xs.length) && decide (xs.getD 0 0 = 10)) := by
  cases xs with
  | nil => rfl
  | cons x r =>
    have h := hb x (by simp)
    have := u8_eq x 10 h.1 h.2 (by decide)
    simp [Lib.hasPrefix, Lib.bytesOf, List.isPrefixOf] at this ⊢
    exact this
theorem pre_crlf (xs : List Int) (hb : ∀ x ∈ xs, 0 ≤ x ∧ x ≤ 255) : Lib.hasPrefix (Lib.bytesOf xs) (Lib.bytesOf [13, 10]) = (decide (1 < xs.length) && decide (xs.getD 0 0 = 13) && decide (xs.getD 1 0 = 10)) := by
  cases xs with
  | nil => rfl
  | cons x r =>
    cases r with
    | nil => simp [Lib.hasPrefix, Lib.bytesOf, List.isPrefixOf]
    | cons y r =>
      have h := hb x (by simp)
      have h' := hb y (by simp)
      have a := u8_eq x 13 h.1 h.2 (by decide)
      have b := u8_eq y 10 h'.1 h'.2 (by decide)
      simp [Lib.hasPrefix, Lib.bytesOf, List.isPrefixOf] at a b ⊢
      rw [a, b]
end Go.Proofs.Qxb6002372a
