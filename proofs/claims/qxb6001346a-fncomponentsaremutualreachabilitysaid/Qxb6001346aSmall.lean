/-
  THE SMALL FUNCTIONS ON THE ROAD: the bound on lengths, the clones, graphFits.
-/
import Derived.Test.Qxb6001346aProg
import Derived.Test.Qxb6001346aMem
set_option linter.all false
namespace Go.Proofs.Qxb6001346a
open Go.RowKit Tj

theorem Try.info21 : (Try.prog.info? 21).map (fun i => (i.zero, i.size, i.bytes)) = some (some (.int .i32 0), 1, 4) := by kernel_rfl
theorem Try.info5 : (Try.prog.info? 5).map (fun i => (i.zero, i.size, i.bytes)) = some (some (.int .u8 0), 1, 1) := by kernel_rfl

set_option maxHeartbeats 400000 in
theorem zzBytes4_any (a0 : Option Addr) (l0 c0 : Nat) (a1 : Option Addr) (l1 c1 : Nat) (a2 : Option Addr) (l2 c2 : Nat) (x : Int) (w : World)
    (h0 : l0 ≤ maxLen) (h1 : l1 ≤ maxLen) (h2 : l2 ≤ maxLen) :
    Calls Try.prog 17 #[.slice a0 l0 c0, .slice a1 l1 c1, .slice a2 l2 c2, .int .u8 x] w fun e w' => (∃ b, e = .returned (.bool b)) ∧ w' = w := by
  unfold maxLen at h0 h1 h2
  go_enter Try.func17, Try.ntmps17
  go_wp2
  all_goals
    go_ret
    exact ⟨⟨_, rfl⟩, rfl⟩

/-- The loop of a clone: k cells are copied. -/
theorem clone_rel {k : IntKind} {w wr : World} {g n i : Nat} {f : Nat → Int} {e : TypeId} {z : Value} (hi : i < n) (hB : w.heap.size ≤ g) (hr : Row wr g e n (fun j => if j < i then .int k (f j) else z)) (hb : Below w.heap.size w wr) :
    Row (wr.setCell ⟨g, i, none⟩ (.int k (f i))) g e n (fun j => if j < i + 1 then .int k (f j) else z) ∧ Below w.heap.size w (wr.setCell ⟨g, i, none⟩ (.int k (f i))) := by
  refine ⟨?_, hb.setCell hB _⟩
  refine (hr.set (i := i) (.int k (f i))).congr ?_
  intro j _
  by_cases e : j = i
  · subst e; simp [upd_same]
  · rw [upd_ne _ _ e]
    by_cases h : j < i
    · rw [if_pos h, if_pos (by omega)]
    · rw [if_neg h, if_neg (by omega)]

set_option maxHeartbeats 400000 in
theorem cloneI32_some (b off len cap : Nat) (f : Nat → Int) (w : World) (hl : len ≤ 4097) (hc : ∀ i, i < len → w.cell? ⟨b, off + i, none⟩ = some (.int .i32 (f i))) (hb : 0 < len → b < w.heap.size) :
    Calls Try.prog 14 #[.slice (some ⟨b, off, none⟩) len cap] w fun e w' => ∃ g, e = .returned (.slice (some ⟨g, 0, none⟩) len len) ∧ Below w.heap.size w w' ∧ Row w' g 21 len (fun i => .int .i32 (f i)) := by
  obtain ⟨i0, hi, hz0, hz1, hz2⟩ := info_parts Try.info21
  have hnil := Lib.run_eql_slice_nil (P := Try.prog) w 22 21 (some ⟨b, off, none⟩) len cap 0 0 Try.underlying22
  go_enter Try.func14, Try.ntmps14
  go_wp2_with (at_make; refine wpList_make_full _ rfl (.tmp 8) (.tmp 8) 22 rfl w.heap.size 21 i0 (.int .i32 0) 1 Try.underlying22 hi hz0 hz1 .i64 .i64 _ _ len rfl rfl rfl rfl (by rw [hz2]; omega) (by unfold maxLen; omega) (Nat.le_refl _) ?_)
  intro w1 hown hgrow
  have hrow := Row.of_made hown
  have hbel := (Below.refl w.heap.size w).grown hgrow (Nat.le_refl _) (by intro k hk; cases hk)
  clear hown hgrow hnil hi hz0 hz1 hz2
  go_wp2
  go_loopw [4] (fun i wr => ∃ k : Nat, k ≤ len ∧ i = .int .i64 k ∧ Row wr w.heap.size 21 len (fun j => if j < k then .int .i32 (f j) else .int .i32 0) ∧ Below w.heap.size w wr) (fun i _ => len - (intOf i).toNat)
  case atStart => exact ⟨0, Nat.zero_le _, rfl, by simpa using hrow, hbel⟩
  case round =>
    obtain ⟨k, hk, rfl, hr, hbl⟩ := hrel
    by_cases hlt : k < len
    · have hcx : wr.cell? ⟨b, off + k, none⟩ = some (.int .i32 (f k)) := (hbl.cell (by exact hb (by omega))).trans (hc k hlt)
      have hcy := hr.cell hlt
      simp only [Nat.lt_irrefl, if_false] at hcy
      have hfr := hr.free k
      have R := clone_rel hlt (Nat.le_refl _) hr hbl
      clear hr hbl hrow hbel hc
      go_wp2
      go_roundw
      case rel => exact ⟨k + 1, by omega, by go_num, R.1, R.2⟩
      case measure => simp [intOf]; omega
    · clear hrow hbel hc
      go_wp2
      go_ret
      exact ⟨_, rfl, hbl, hr.congr (fun i hi => by rw [if_pos (by omega)])⟩

theorem cloneI32_nil (len cap : Nat) (w : World) :
    Calls Try.prog 14 #[.slice none len cap] w fun e w' => e = .returned (.slice none 0 0) ∧ w' = w := by
  have hnil := Lib.run_eql_slice_nil (P := Try.prog) w 22 21 none len cap 0 0 Try.underlying22
  go_enter Try.func14, Try.ntmps14
  go_wp2
  go_ret
  exact ⟨rfl, rfl⟩

set_option maxHeartbeats 400000 in
theorem cloneU8_some (b off len cap : Nat) (f : Nat → Int) (w : World) (hl : len ≤ 4097) (hc : ∀ i, i < len → w.cell? ⟨b, off + i, none⟩ = some (.int .u8 (f i))) (hb : 0 < len → b < w.heap.size) :
    Calls Try.prog 15 #[.slice (some ⟨b, off, none⟩) len cap] w fun e w' => ∃ g, e = .returned (.slice (some ⟨g, 0, none⟩) len len) ∧ Below w.heap.size w w' ∧ Row w' g 5 len (fun i => .int .u8 (f i)) := by
  obtain ⟨i0, hi, hz0, hz1, hz2⟩ := info_parts Try.info5
  have hnil := Lib.run_eql_slice_nil (P := Try.prog) w 23 5 (some ⟨b, off, none⟩) len cap 0 0 Try.underlying23
  go_enter Try.func15, Try.ntmps15
  go_wp2_with (at_make; refine wpList_make_full _ rfl (.tmp 8) (.tmp 8) 23 rfl w.heap.size 5 i0 (.int .u8 0) 1 Try.underlying23 hi hz0 hz1 .i64 .i64 _ _ len rfl rfl rfl rfl (by rw [hz2]; omega) (by unfold maxLen; omega) (Nat.le_refl _) ?_)
  intro w1 hown hgrow
  have hrow := Row.of_made hown
  have hbel := (Below.refl w.heap.size w).grown hgrow (Nat.le_refl _) (by intro k hk; cases hk)
  clear hown hgrow hnil hi hz0 hz1 hz2
  go_wp2
  go_loopw [4] (fun i wr => ∃ k : Nat, k ≤ len ∧ i = .int .i64 k ∧ Row wr w.heap.size 5 len (fun j => if j < k then .int .u8 (f j) else .int .u8 0) ∧ Below w.heap.size w wr) (fun i _ => len - (intOf i).toNat)
  case atStart => exact ⟨0, Nat.zero_le _, rfl, by simpa using hrow, hbel⟩
  case round =>
    obtain ⟨k, hk, rfl, hr, hbl⟩ := hrel
    by_cases hlt : k < len
    · have hcx : wr.cell? ⟨b, off + k, none⟩ = some (.int .u8 (f k)) := (hbl.cell (by exact hb (by omega))).trans (hc k hlt)
      have hcy := hr.cell hlt
      simp only [Nat.lt_irrefl, if_false] at hcy
      have hfr := hr.free k
      have R := clone_rel hlt (Nat.le_refl _) hr hbl
      clear hr hbl hrow hbel hc
      go_wp2
      go_roundw
      case rel => exact ⟨k + 1, by omega, by go_num, R.1, R.2⟩
      case measure => simp [intOf]; omega
    · clear hrow hbel hc
      go_wp2
      go_ret
      exact ⟨_, rfl, hbl, hr.congr (fun i hi => by rw [if_pos (by omega)])⟩

theorem cloneU8_nil (len cap : Nat) (w : World) :
    Calls Try.prog 15 #[.slice none len cap] w fun e w' => e = .returned (.slice none 0 0) ∧ w' = w := by
  have hnil := Lib.run_eql_slice_nil (P := Try.prog) w 23 5 none len cap 0 0 Try.underlying23
  go_enter Try.func15, Try.ntmps15
  go_wp2
  go_ret
  exact ⟨rfl, rfl⟩


theorem cloneI32_zero (x : Addr) (cap : Nat) (w : World) :
    Calls Try.prog 14 #[.slice (some x) 0 cap] w fun e w' => ∃ g, e = .returned (.slice (some ⟨g, 0, none⟩) 0 0) ∧ Below w.heap.size w w' := by
  obtain ⟨i0, hi, hz0, hz1, hz2⟩ := info_parts Try.info21
  have hnil := Lib.run_eql_slice_nil (P := Try.prog) w 22 21 (some x) 0 cap 0 0 Try.underlying22
  go_enter Try.func14, Try.ntmps14
  go_wp2_with (at_make; refine wpList_make_full _ rfl (.tmp 8) (.tmp 8) 22 rfl w.heap.size 21 i0 (.int .i32 0) 1 Try.underlying22 hi hz0 hz1 .i64 .i64 _ _ 0 rfl rfl rfl rfl (by omega) (by unfold maxLen; omega) (Nat.le_refl _) ?_)
  intro w1 hown hgrow
  have hbel := (Below.refl w.heap.size w).grown hgrow (Nat.le_refl _) (by intro k hk; cases hk)
  clear hown hgrow hnil hi hz0 hz1 hz2
  go_wp2
  refine wp_loop_rounds 1 ?_
  rw [rounds_succ]
  go_wp2
  go_ret
  exact ⟨_, rfl, hbel⟩

theorem cloneI32_any (a : Option Addr) (len cap : Nat) (f : Nat → Int) (w : World) (hl : len ≤ 4097) (h : SIn w .i32 a len f) (hn : a = none → len = 0) :
    Calls Try.prog 14 #[.slice a len cap] w fun e w' => ∃ a' cap', e = .returned (.slice a' len cap') ∧ Below w.heap.size w w' ∧ SIn w' .i32 a' len f := by
  cases a with
  | none =>
    obtain rfl := hn rfl
    refine (cloneI32_nil 0 cap w).mono ?_
    rintro e w' ⟨rfl, rfl⟩
    exact ⟨none, 0, rfl, Below.refl _ _, fun h => by omega⟩
  | some x =>
    by_cases h0 : 0 < len
    · obtain ⟨b, off, hx, h2, h3⟩ := h h0
      cases hx
      refine (cloneI32_some b off len cap f w hl h3 (fun _ => h2)).mono ?_
      rintro e w' ⟨g, rfl, hb, hr⟩
      exact ⟨_, _, rfl, hb, SIn.of_row hr⟩
    · obtain rfl : len = 0 := by omega
      refine (cloneI32_zero x cap w).mono ?_
      rintro e w' ⟨g, rfl, hb⟩
      exact ⟨_, _, rfl, hb, fun h => by omega⟩

theorem cloneU8_zero (x : Addr) (cap : Nat) (w : World) :
    Calls Try.prog 15 #[.slice (some x) 0 cap] w fun e w' => ∃ g, e = .returned (.slice (some ⟨g, 0, none⟩) 0 0) ∧ Below w.heap.size w w' := by
  obtain ⟨i0, hi, hz0, hz1, hz2⟩ := info_parts Try.info5
  have hnil := Lib.run_eql_slice_nil (P := Try.prog) w 23 5 (some x) 0 cap 0 0 Try.underlying23
  go_enter Try.func15, Try.ntmps15
  go_wp2_with (at_make; refine wpList_make_full _ rfl (.tmp 8) (.tmp 8) 23 rfl w.heap.size 5 i0 (.int .u8 0) 1 Try.underlying23 hi hz0 hz1 .i64 .i64 _ _ 0 rfl rfl rfl rfl (by omega) (by unfold maxLen; omega) (Nat.le_refl _) ?_)
  intro w1 hown hgrow
  have hbel := (Below.refl w.heap.size w).grown hgrow (Nat.le_refl _) (by intro k hk; cases hk)
  clear hown hgrow hnil hi hz0 hz1 hz2
  go_wp2
  refine wp_loop_rounds 1 ?_
  rw [rounds_succ]
  go_wp2
  go_ret
  exact ⟨_, rfl, hbel⟩

theorem cloneU8_any (a : Option Addr) (len cap : Nat) (f : Nat → Int) (w : World) (hl : len ≤ 4097) (h : SIn w .u8 a len f) (hn : a = none → len = 0) :
    Calls Try.prog 15 #[.slice a len cap] w fun e w' => ∃ a' cap', e = .returned (.slice a' len cap') ∧ Below w.heap.size w w' ∧ SIn w' .u8 a' len f := by
  cases a with
  | none =>
    obtain rfl := hn rfl
    refine (cloneU8_nil 0 cap w).mono ?_
    rintro e w' ⟨rfl, rfl⟩
    exact ⟨none, 0, rfl, Below.refl _ _, fun h => by omega⟩
  | some x =>
    by_cases h0 : 0 < len
    · obtain ⟨b, off, hx, h2, h3⟩ := h h0
      cases hx
      refine (cloneU8_some b off len cap f w hl h3 (fun _ => h2)).mono ?_
      rintro e w' ⟨g, rfl, hb, hr⟩
      exact ⟨_, _, rfl, hb, SIn.of_row hr⟩
    · obtain rfl : len = 0 := by omega
      refine (cloneU8_zero x cap w).mono ?_
      rintro e w' ⟨g, rfl, hb⟩
      exact ⟨_, _, rfl, hb, fun h => by omega⟩

/-- What 'graphFits' says yes to. -/
structure Fits (l0 l1 l2 : Nat) (f0 f1 : Nat → Int) : Prop where
  len0 : 1 ≤ l0 ∧ l0 ≤ 4097
  len1 : l1 ≤ 4096
  len2 : l2 = l1
  zero : f0 0 = 0
  last : f0 (l0 - 1) = l1
  mono : ∀ i, i < l0 - 1 → f0 i ≤ f0 (i + 1)
  tgt : ∀ e, e < l1 → 0 ≤ f1 e ∧ f1 e < (l0 - 1 : Nat)

end Go.Proofs.Qxb6001346a
