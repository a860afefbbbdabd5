/-
  The plain law of the line ending backslash: blanks, line ends, the stretch that is passed.
-/
import Derived.WalkKit
set_option linter.all false
namespace Go.Proofs.Qxb6002372a
open Go.RowKit

def blank (x : Int) : Prop := x = 32 ∨ x = 9
/-- k is the first place from p on that holds no blank, or the end. -/
def Skip (f : Nat → Int) (n p k : Nat) : Prop := p ≤ k ∧ k ≤ n ∧ (∀ j, p ≤ j → j < k → blank (f j)) ∧ (k < n → ¬ blank (f k))
def lfAt (f : Nat → Int) (n k : Nat) : Prop := k < n ∧ f k = 10
def crAt (f : Nat → Int) (n k : Nat) : Prop := k + 1 < n ∧ f k = 13 ∧ f (k + 1) = 10
theorem Skip.unique {f : Nat → Int} {n p k k' : Nat} (h : Skip f n p k) (h' : Skip f n p k') : k = k' := by
  obtain ⟨a, b, c, d⟩ := h
  obtain ⟨a', b', c', d'⟩ := h'
  rcases Nat.lt_trichotomy k k' with e | e | e
  · exact absurd (c' k a e) (d (by omega))
  · exact e
  · exact absurd (c k' a' e) (d' (by omega))

/-- A stretch from p on that holds blanks and line ends, c of these. -/
inductive Str (f : Nat → Int) (n p : Nat) : Nat → Nat → Prop
  | nil : Str f n p p 0
  | blank {q c : Nat} : Str f n p q c → q < n → blank (f q) → Str f n p (q + 1) c
  | lf {q c : Nat} : Str f n p q c → lfAt f n q → Str f n p (q + 1) (c + 1)
  | crlf {q c : Nat} : Str f n p q c → crAt f n q → Str f n p (q + 2) (c + 1)

/-- The number of the m bytes from p on that are LF. -/
def cnt (f : Nat → Int) (p : Nat) : Nat → Nat
  | 0 => 0
  | m + 1 => cnt f p m + (if f (p + m) = 10 then 1 else 0)

theorem Str.of_blanks {f : Nat → Int} {n p q c k : Nat} (h : Str f n p q c) (hqk : q ≤ k) (hk : k ≤ n) (hb : ∀ j, q ≤ j → j < k → Go.Proofs.Qxb6002372a.blank (f j)) : Str f n p k c := by
  obtain ⟨m, rfl⟩ : ∃ m, k = q + m := ⟨k - q, by omega⟩
  clear hqk
  induction m with
  | zero => exact h
  | succ m ih => exact Str.blank (q := q + m) (ih (by omega) (fun j h1 h2 => hb j h1 (by omega))) (by omega) (hb (q + m) (by omega) (by omega))

theorem Str.facts {f : Nat → Int} {n p q c : Nat} (h : Str f n p q c) (hp : p ≤ n) :
    p ≤ q ∧ q ≤ n ∧ cnt f p (q - p) = c ∧ ∀ i, p ≤ i → i < q → f i = 10 ∨ (f i = 13 ∧ i + 1 < q ∧ f (i + 1) = 10) ∨ Go.Proofs.Qxb6002372a.blank (f i) := by
  induction h with
  | nil => exact ⟨Nat.le_refl _, hp, by simp [cnt], fun i h1 h2 => by omega⟩
  | @blank q c h hq hb ih =>
    obtain ⟨a, b, c', d⟩ := ih
    refine ⟨by omega, by omega, ?_, ?_⟩
    · rw [show q + 1 - p = (q - p) + 1 by omega, cnt, c', show p + (q - p) = q by omega, if_neg (by rcases hb with h | h <;> omega)]
      rfl
    · intro i h1 h2
      by_cases e : i = q
      · subst e; exact .inr (.inr hb)
      · rcases d i h1 (by omega) with h | h | h
        · exact .inl h
        · exact .inr (.inl ⟨h.1, by omega, h.2.2⟩)
        · exact .inr (.inr h)
  | @lf q c h hq ih =>
    obtain ⟨a, b, c', d⟩ := ih
    refine ⟨by omega, by have := hq.1; omega, ?_, ?_⟩
    · rw [show q + 1 - p = (q - p) + 1 by omega, cnt, c', show p + (q - p) = q by omega, if_pos hq.2]
    · intro i h1 h2
      by_cases e : i = q
      · subst e; exact .inl hq.2
      · rcases d i h1 (by omega) with h | h | h
        · exact .inl h
        · exact .inr (.inl ⟨h.1, by omega, h.2.2⟩)
        · exact .inr (.inr h)
  | @crlf q c h hq ih =>
    obtain ⟨a, b, c', d⟩ := ih
    obtain ⟨h1, h2, h3⟩ := hq
    refine ⟨by omega, by omega, ?_, ?_⟩
    · rw [show q + 2 - p = (q - p) + 1 + 1 by omega, cnt, cnt, c', show p + (q - p) = q by omega, show p + (q - p + 1) = q + 1 by omega, if_neg (by omega), if_pos h3]
    · intro i g1 g2
      by_cases e : i = q
      · subst e; exact .inr (.inl ⟨h2, by omega, h3⟩)
      · by_cases e' : i = q + 1
        · subst e'; exact .inl h3
        · rcases d i g1 (by omega) with h | h | h
          · exact .inl h
          · exact .inr (.inl ⟨h.1, by omega, h.2.2⟩)
          · exact .inr (.inr h)
theorem cnt_le (f : Nat → Int) (p m : Nat) : cnt f p m ≤ m := by
  induction m with
  | zero => exact Nat.le_refl _
  | succ m ih => rw [cnt]; split <;> omega

/-- The line after c line ends. -/
def lineAt (line : Int) (c : Nat) : Int := wrap64 (line + c)
theorem lineAt_zero (line : Int) (h : -9223372036854775808 ≤ line ∧ line ≤ 9223372036854775807) : lineAt line 0 = line := by
  unfold lineAt wrap64; omega
theorem lineAt_succ (line : Int) (c : Nat) : wrap64 (lineAt line c + 1) = lineAt line (c + 1) := by
  unfold lineAt wrap64; omega
theorem lineAt_sub (line : Int) (c : Nat) (h : c ≤ 1048576) : wrap64 (lineAt line c - line) = c := by
  unfold lineAt wrap64; omega
end Go.Proofs.Qxb6002372a
