/-
  UTF-8, plainly: the law's own reading of a sequence against the model's decoder.
-/
import Derived.WalkKit
set_option linter.all false
namespace Go.Proofs.Qxb6002372a

/-- The byte at place k. -/
def by' (s : ByteArray) (k : Nat) : Nat := (s.get! k).toNat
theorem by_lt (s : ByteArray) (k : Nat) : by' s k < 256 := (s.get! k).toNat_lt
/-- zzSeqLen. -/
def seqLen (s : ByteArray) (i : Nat) : Nat :=
  if by' s i < 128 then 1
  else if 194 ≤ by' s i ∧ by' s i ≤ 223 then (if i + 2 ≤ s.size ∧ 128 ≤ by' s (i + 1) ∧ by' s (i + 1) ≤ 191 then 2 else 0)
  else if 224 ≤ by' s i ∧ by' s i ≤ 239 then
    (if i + 3 ≤ s.size ∧ (if by' s i = 224 then 160 else 128) ≤ by' s (i + 1) ∧ by' s (i + 1) ≤ (if by' s i = 237 then 159 else 191) ∧ 128 ≤ by' s (i + 2) ∧ by' s (i + 2) ≤ 191 then 3 else 0)
  else if 240 ≤ by' s i ∧ by' s i ≤ 244 then
    (if i + 4 ≤ s.size ∧ (if by' s i = 240 then 144 else 128) ≤ by' s (i + 1) ∧ by' s (i + 1) ≤ (if by' s i = 244 then 143 else 191) ∧ 128 ≤ by' s (i + 2) ∧ by' s (i + 2) ≤ 191 ∧ 128 ≤ by' s (i + 3) ∧ by' s (i + 3) ≤ 191 then 4 else 0)
  else 0

/-- The decoder, over the bytes. -/
def dec4 (n b0 b1 b2 b3 : Nat) : Nat × Nat :=
  if b0 < 0x80 then (b0, 1)
  else if b0 / 32 = 6 ∧ 1 < n ∧ b1 / 64 = 2 then
    (if (b0 % 32) * 64 + b1 % 64 ≥ 0x80 then ((b0 % 32) * 64 + b1 % 64, 2) else (0xFFFD, 1))
  else if b0 / 16 = 14 ∧ 1 < n ∧ b1 / 64 = 2 ∧ 2 < n ∧ b2 / 64 = 2 then
    (if (b0 % 16) * 4096 + (b1 % 64) * 64 + b2 % 64 ≥ 0x800 ∧ ((b0 % 16) * 4096 + (b1 % 64) * 64 + b2 % 64 < 0xD800 ∨ (0xE000 ≤ (b0 % 16) * 4096 + (b1 % 64) * 64 + b2 % 64 ∧ (b0 % 16) * 4096 + (b1 % 64) * 64 + b2 % 64 ≤ 0x10FFFF)) then ((b0 % 16) * 4096 + (b1 % 64) * 64 + b2 % 64, 3) else (0xFFFD, 1))
  else if b0 / 8 = 30 ∧ 1 < n ∧ b1 / 64 = 2 ∧ 2 < n ∧ b2 / 64 = 2 ∧ 3 < n ∧ b3 / 64 = 2 then
    (if (b0 % 8) * 262144 + (b1 % 64) * 4096 + (b2 % 64) * 64 + b3 % 64 ≥ 0x10000 ∧ ((b0 % 8) * 262144 + (b1 % 64) * 4096 + (b2 % 64) * 64 + b3 % 64 < 0xD800 ∨ (0xE000 ≤ (b0 % 8) * 262144 + (b1 % 64) * 4096 + (b2 % 64) * 64 + b3 % 64 ∧ (b0 % 8) * 262144 + (b1 % 64) * 4096 + (b2 % 64) * 64 + b3 % 64 ≤ 0x10FFFF)) then ((b0 % 8) * 262144 + (b1 % 64) * 4096 + (b2 % 64) * 64 + b3 % 64, 4) else (0xFFFD, 1))
  else (0xFFFD, 1)

theorem valid_nat (c : Nat) : Utf8.valid (c : Int) = decide (c < 0xD800 ∨ (0xE000 ≤ c ∧ c ≤ 0x10FFFF)) := by
  unfold Utf8.valid
  by_cases h : c < 0xD800 ∨ (0xE000 ≤ c ∧ c ≤ 0x10FFFF)
  · rw [decide_eq_true h]; simp; omega
  · rw [decide_eq_false h]; simp; omega

theorem decode_eq (s : ByteArray) (i : Nat) : Utf8.decode s i = dec4 (s.size - i) (by' s i) (by' s (i + 1)) (by' s (i + 2)) (by' s (i + 3)) := by
  have e1 : (i + 1 < s.size) = (1 < s.size - i) := propext (by omega)
  have e2 : (i + 2 < s.size) = (2 < s.size - i) := propext (by omega)
  have e3 : (i + 3 < s.size) = (3 < s.size - i) := propext (by omega)
  have d0 : (s.get! i).toNat = by' s i := rfl
  have d1 : (s.get! (i + 1)).toNat = by' s (i + 1) := rfl
  have d2 : (s.get! (i + 2)).toNat = by' s (i + 2) := rfl
  have d3 : (s.get! (i + 3)).toNat = by' s (i + 3) := rfl
  unfold Utf8.decode dec4
  simp only [Nat.add_zero, d0, d1, d2, d3, Bool.and_eq_true, beq_iff_eq, decide_eq_true_eq, valid_nat, Utf8.runeError]
  generalize by' s i = b0
  generalize by' s (i + 1) = b1
  generalize by' s (i + 2) = b2
  generalize by' s (i + 3) = b3
  simp only [e1, e2, e3]
  generalize s.size - i = n
  simp only [and_assoc]

/-- What both sides say of one step. -/
structure Step (w c d : Nat) : Prop where
  width : d = (if w = 0 then 1 else w)
  four : 65536 ≤ c ↔ w = 4
  top : c ≤ 1114111
  noSur : ¬ (55296 ≤ c ∧ c < 57344)
  le4 : w ≤ 4

theorem step_dec (s : ByteArray) (i : Nat) (hi : i < s.size) : Step (seqLen s i) (Utf8.decode s i).1 (Utf8.decode s i).2 := by
  rw [decode_eq]
  have h0 := by_lt s i
  have h1 := by_lt s (i + 1)
  have h2 := by_lt s (i + 2)
  have h3 := by_lt s (i + 3)
  unfold seqLen
  generalize by' s i = b0 at *
  generalize by' s (i + 1) = b1 at *
  generalize by' s (i + 2) = b2 at *
  generalize by' s (i + 3) = b3 at *
  obtain ⟨n, hn⟩ : ∃ n, s.size = i + n := ⟨s.size - i, by omega⟩
  rw [hn]
  have e : i + n - i = n := by omega
  rw [e]
  have e2 : (i + 2 ≤ i + n) = (1 < n) := propext (by omega)
  have e3 : (i + 3 ≤ i + n) = (2 < n) := propext (by omega)
  have e4 : (i + 4 ≤ i + n) = (3 < n) := propext (by omega)
  simp only [e2, e3, e4]
  clear hn e e2 e3 e4 hi
  unfold dec4
  by_cases c0 : b0 < 128
  · rw [if_pos c0, if_pos c0]; constructor <;> simp <;> omega
  rw [if_neg c0, if_neg c0]
  by_cases c1 : b0 < 194
  · have x1 : ¬ (194 ≤ b0 ∧ b0 ≤ 223) := by omega
    have x2 : ¬ (224 ≤ b0 ∧ b0 ≤ 239) := by omega
    have x3 : ¬ (240 ≤ b0 ∧ b0 ≤ 244) := by omega
    have x4 : ¬ (b0 / 16 = 14 ∧ 1 < n ∧ b1 / 64 = 2 ∧ 2 < n ∧ b2 / 64 = 2) := by omega
    have x5 : ¬ (b0 / 8 = 30 ∧ 1 < n ∧ b1 / 64 = 2 ∧ 2 < n ∧ b2 / 64 = 2 ∧ 3 < n ∧ b3 / 64 = 2) := by omega
    rw [if_neg x1, if_neg x2, if_neg x3, if_neg x4, if_neg x5]
    have x6 : b0 / 32 = 6 → ¬ ((b0 % 32) * 64 + b1 % 64 ≥ 128) := by omega
    by_cases c : b0 / 32 = 6 ∧ 1 < n ∧ b1 / 64 = 2
    · rw [if_pos c, if_neg (x6 c.1)]; constructor <;> simp
    · rw [if_neg c]; constructor <;> simp
  by_cases c2 : b0 < 224
  · rw [if_pos (show 194 ≤ b0 ∧ b0 ≤ 223 by omega)]
    have x4 : ¬ (b0 / 16 = 14 ∧ 1 < n ∧ b1 / 64 = 2 ∧ 2 < n ∧ b2 / 64 = 2) := by omega
    have x5 : ¬ (b0 / 8 = 30 ∧ 1 < n ∧ b1 / 64 = 2 ∧ 2 < n ∧ b2 / 64 = 2 ∧ 3 < n ∧ b3 / 64 = 2) := by omega
    rw [if_neg x4, if_neg x5]
    by_cases c : 1 < n ∧ 128 ≤ b1 ∧ b1 ≤ 191
    · rw [if_pos c, if_pos (show b0 / 32 = 6 ∧ 1 < n ∧ b1 / 64 = 2 by omega), if_pos (show (b0 % 32) * 64 + b1 % 64 ≥ 128 by omega)]
      constructor <;> simp <;> omega
    · rw [if_neg c, if_neg (show ¬ (b0 / 32 = 6 ∧ 1 < n ∧ b1 / 64 = 2) by omega)]
      constructor <;> simp
  by_cases c3 : b0 < 240
  · rw [if_neg (show ¬ (194 ≤ b0 ∧ b0 ≤ 223) by omega), if_pos (show 224 ≤ b0 ∧ b0 ≤ 239 by omega)]
    have x4 : ¬ (b0 / 32 = 6 ∧ 1 < n ∧ b1 / 64 = 2) := by omega
    have x5 : ¬ (b0 / 8 = 30 ∧ 1 < n ∧ b1 / 64 = 2 ∧ 2 < n ∧ b2 / 64 = 2 ∧ 3 < n ∧ b3 / 64 = 2) := by omega
    rw [if_neg x4, if_neg x5]
    by_cases c : 2 < n ∧ (if b0 = 224 then 160 else 128) ≤ b1 ∧ b1 ≤ (if b0 = 237 then 159 else 191) ∧ 128 ≤ b2 ∧ b2 ≤ 191
    · rw [if_pos c]
      have k1 : 160 ≤ b1 ∨ b0 ≠ 224 := by by_cases e : b0 = 224 <;> simp [e] at c ⊢ <;> omega
      have k2 : b1 ≤ 159 ∨ b0 ≠ 237 := by by_cases e : b0 = 237 <;> simp [e] at c ⊢ <;> omega
      have k3 : 128 ≤ b1 := by have := c.2.1; split at this <;> omega
      have k4 : b1 ≤ 191 := by have := c.2.2.1; split at this <;> omega
      rw [if_pos (show b0 / 16 = 14 ∧ 1 < n ∧ b1 / 64 = 2 ∧ 2 < n ∧ b2 / 64 = 2 by omega)]
      have k5 : 128 ≤ b2 ∧ b2 ≤ 191 := c.2.2.2
      clear c
      rw [if_pos (by omega)]
      constructor <;> simp <;> omega
    · rw [if_neg c]
      by_cases c' : b0 / 16 = 14 ∧ 1 < n ∧ b1 / 64 = 2 ∧ 2 < n ∧ b2 / 64 = 2
      · rw [if_pos c']
        have k1 : (b0 = 224 ∧ b1 < 160) ∨ (b0 = 237 ∧ 159 < b1) := by
          by_cases e : b0 = 224
          · simp [e] at c ⊢; omega
          · by_cases e' : b0 = 237
            · simp [e'] at c ⊢; omega
            · simp [e, e'] at c ⊢; omega
        clear c
        rw [if_neg (by omega)]
        constructor <;> simp
      · rw [if_neg c']; constructor <;> simp
  rw [if_neg (show ¬ (194 ≤ b0 ∧ b0 ≤ 223) by omega), if_neg (show ¬ (224 ≤ b0 ∧ b0 ≤ 239) by omega)]
  rw [if_neg (show ¬ (b0 / 32 = 6 ∧ 1 < n ∧ b1 / 64 = 2) by omega), if_neg (show ¬ (b0 / 16 = 14 ∧ 1 < n ∧ b1 / 64 = 2 ∧ 2 < n ∧ b2 / 64 = 2) by omega)]
  by_cases c4 : b0 ≤ 244
  · rw [if_pos (show 240 ≤ b0 ∧ b0 ≤ 244 by omega)]
    by_cases c : 3 < n ∧ (if b0 = 240 then 144 else 128) ≤ b1 ∧ b1 ≤ (if b0 = 244 then 143 else 191) ∧ 128 ≤ b2 ∧ b2 ≤ 191 ∧ 128 ≤ b3 ∧ b3 ≤ 191
    · rw [if_pos c]
      have k1 : 144 ≤ b1 ∨ b0 ≠ 240 := by by_cases e : b0 = 240 <;> simp [e] at c ⊢ <;> omega
      have k2 : b1 ≤ 143 ∨ b0 ≠ 244 := by by_cases e : b0 = 244 <;> simp [e] at c ⊢ <;> omega
      have k3 : 128 ≤ b1 := by have := c.2.1; split at this <;> omega
      have k4 : b1 ≤ 191 := by have := c.2.2.1; split at this <;> omega
      have k5 : 128 ≤ b2 ∧ b2 ≤ 191 ∧ 128 ≤ b3 ∧ b3 ≤ 191 := c.2.2.2
      rw [if_pos (show b0 / 8 = 30 ∧ 1 < n ∧ b1 / 64 = 2 ∧ 2 < n ∧ b2 / 64 = 2 ∧ 3 < n ∧ b3 / 64 = 2 by omega)]
      clear c
      rw [if_pos (by omega)]
      constructor <;> simp <;> omega
    · rw [if_neg c]
      by_cases c' : b0 / 8 = 30 ∧ 1 < n ∧ b1 / 64 = 2 ∧ 2 < n ∧ b2 / 64 = 2 ∧ 3 < n ∧ b3 / 64 = 2
      · rw [if_pos c']
        have k1 : (b0 = 240 ∧ b1 < 144) ∨ (b0 = 244 ∧ 143 < b1) := by
          by_cases e : b0 = 240
          · simp [e] at c ⊢; omega
          · by_cases e' : b0 = 244
            · simp [e'] at c ⊢; omega
            · simp [e, e'] at c ⊢; omega
        clear c
        rw [if_neg (by omega)]
        constructor <;> simp
      · rw [if_neg c']; constructor <;> simp
  · rw [if_neg (show ¬ (240 ≤ b0 ∧ b0 ≤ 244) by omega)]
    by_cases c' : b0 / 8 = 30 ∧ 1 < n ∧ b1 / 64 = 2 ∧ 2 < n ∧ b2 / 64 = 2 ∧ 3 < n ∧ b3 / 64 = 2
    · rw [if_pos c', if_neg (by omega)]
      constructor <;> simp
    · rw [if_neg c']; constructor <;> simp

/-- The units from place i on. -/
def unitsAt (s : ByteArray) (i : Nat) : Nat :=
  if h : i < s.size then (if seqLen s i = 4 then 2 else 1) + unitsAt s (i + (if seqLen s i = 0 then 1 else seqLen s i)) else 0
termination_by s.size - i
decreasing_by split <;> omega
theorem unitsAt_le (s : ByteArray) (i : Nat) : unitsAt s i ≤ s.size - i := by
  induction i using unitsAt.induct s with
  | case1 i h ih =>
    rw [unitsAt, dif_pos h]
    have hl : seqLen s i = 4 → i + 4 ≤ s.size := by
      intro e
      unfold seqLen at e
      repeat' split at e
      all_goals first | omega | cases e
    by_cases e : seqLen s i = 4
    · have := hl e; simp [e] at ih ⊢; omega
    · simp only [e, if_false] at ih ⊢
      by_cases e' : seqLen s i = 0
      · simp [e'] at ih ⊢; omega
      · simp [e'] at ih ⊢; omega
  | case2 i h => rw [unitsAt, dif_neg h]; omega
theorem seqLen_fits (s : ByteArray) (i : Nat) (h : i < s.size) : i + (if seqLen s i = 0 then 1 else seqLen s i) ≤ s.size := by
  by_cases e : seqLen s i = 0
  · rw [if_pos e]; omega
  · rw [if_neg e]
    unfold seqLen at e ⊢
    repeat' split
    all_goals first | omega | (exfalso; revert e; simp [*])
section
variable {s : ByteArray} {i : Nat}
theorem sl1 (h : by' s i < 128) : seqLen s i = 1 := by unfold seqLen; rw [if_pos h]
theorem sl0 (h : 128 ≤ by' s i) (h2 : by' s i < 194 ∨ 244 < by' s i) : seqLen s i = 0 := by
  unfold seqLen
  rw [if_neg (by omega), if_neg (by omega), if_neg (by omega), if_neg (by omega)]
theorem sl2 (h : 194 ≤ by' s i) (h2 : by' s i ≤ 223) : seqLen s i = if i + 2 ≤ s.size ∧ 128 ≤ by' s (i + 1) ∧ by' s (i + 1) ≤ 191 then 2 else 0 := by
  unfold seqLen
  rw [if_neg (by omega), if_pos ⟨h, h2⟩]
theorem sl3 (h : 224 ≤ by' s i) (h2 : by' s i ≤ 239) : seqLen s i = if i + 3 ≤ s.size ∧ (if by' s i = 224 then 160 else 128) ≤ by' s (i + 1) ∧ by' s (i + 1) ≤ (if by' s i = 237 then 159 else 191) ∧ 128 ≤ by' s (i + 2) ∧ by' s (i + 2) ≤ 191 then 3 else 0 := by
  unfold seqLen
  rw [if_neg (by omega), if_neg (by omega), if_pos ⟨h, h2⟩]
theorem sl4 (h : 240 ≤ by' s i) (h2 : by' s i ≤ 244) : seqLen s i = if i + 4 ≤ s.size ∧ (if by' s i = 240 then 144 else 128) ≤ by' s (i + 1) ∧ by' s (i + 1) ≤ (if by' s i = 244 then 143 else 191) ∧ 128 ≤ by' s (i + 2) ∧ by' s (i + 2) ≤ 191 ∧ 128 ≤ by' s (i + 3) ∧ by' s (i + 3) ≤ 191 then 4 else 0 := by
  unfold seqLen
  rw [if_neg (by omega), if_neg (by omega), if_neg (by omega), if_pos ⟨h, h2⟩]
theorem sl3n (h : 224 ≤ by' s i) (h2 : by' s i ≤ 239) (lo hi : Nat) (hlo : (if by' s i = 224 then 160 else 128) = lo) (hhi : (if by' s i = 237 then 159 else 191) = hi) : seqLen s i = if i + 3 ≤ s.size ∧ lo ≤ by' s (i + 1) ∧ by' s (i + 1) ≤ hi ∧ 128 ≤ by' s (i + 2) ∧ by' s (i + 2) ≤ 191 then 3 else 0 := by
  subst hlo hhi; exact sl3 h h2
theorem sl4n (h : 240 ≤ by' s i) (h2 : by' s i ≤ 244) (lo hi : Nat) (hlo : (if by' s i = 240 then 144 else 128) = lo) (hhi : (if by' s i = 244 then 143 else 191) = hi) : seqLen s i = if i + 4 ≤ s.size ∧ lo ≤ by' s (i + 1) ∧ by' s (i + 1) ≤ hi ∧ 128 ≤ by' s (i + 2) ∧ by' s (i + 2) ≤ 191 ∧ 128 ≤ by' s (i + 3) ∧ by' s (i + 3) ≤ 191 then 4 else 0 := by
  subst hlo hhi; exact sl4 h h2
end
theorem unitsAt_rec (s : ByteArray) (i : Nat) (h : i < s.size) : unitsAt s i = (if seqLen s i = 4 then 2 else 1) + unitsAt s (i + (if seqLen s i = 0 then 1 else seqLen s i)) := by
  rw [unitsAt, dif_pos h]
theorem unitsAt_end (s : ByteArray) (i : Nat) (h : ¬ i < s.size) : unitsAt s i = 0 := by
  rw [unitsAt, dif_neg h]
end Go.Proofs.Qxb6002372a
