/-
  MEMORY: rows of cells that a call made itself, said by a function of the place ('Row'); the clone of a slice of bytes.
-/
import Derived.Test.Qxb6002372aProg
import Derived.Test.Qxb6002372aLinePlain
import Derived.WalkKit
import Derived.WalkSpells
import Derived.Deep.QuietTactic
import Derived.BigQuiet
import Derived.Lib.SliceRun
import Derived.Deep.Cut
set_option linter.all false
namespace Go.Proofs.Qxb6002372a
open Go.RowKit

instance (c : Int) : Decidable (blank c) := inferInstanceAs (Decidable (c = 32 ∨ c = 9))
def upd {α : Type} (f : Nat → α) (i : Nat) (u : α) : Nat → α := fun j => if j = i then u else f j
theorem upd_same {α : Type} (f : Nat → α) (i : Nat) (u : α) : upd f i u i = u := by simp [upd]
theorem upd_ne {α : Type} (f : Nat → α) {i j : Nat} (u : α) (h : j ≠ i) : upd f i u j = f j := by simp [upd, h]
/-- A row of cells that holds f's values in its first n cells; none of its cells is frozen. -/
def Row (w : World) (g : Nat) (e : TypeId) (n : Nat) (f : Nat → Value) : Prop := ∃ cur, w.heap[g]? = some (.cells cur e (0, 0)) ∧ ∀ i, i < n → cur[i]? = some (f i)

section
variable {w w' : World} {g : Nat} {e : TypeId} {n : Nat} {f : Nat → Value}
theorem Row.cell (h : Row w g e n f) {i : Nat} (hi : i < n) : w.cell? ⟨g, i, none⟩ = some (f i) := by
  obtain ⟨cur, h1, h2⟩ := h
  simp [World.cell?, h1, h2 i hi]
theorem Row.free (h : Row w g e n f) (i : Nat) : w.frozen? ⟨g, i, none⟩ = false := by
  obtain ⟨cur, h1, _⟩ := h
  simp [World.frozen?, h1]
theorem Row.lt (h : Row w g e n f) : g < w.heap.size := by
  obtain ⟨cur, h1, _⟩ := h
  exact (Array.getElem?_eq_some_iff.1 h1).1
theorem Row.keep (h : Row w g e n f) (hb : w'.heap[g]? = w.heap[g]?) : Row w' g e n f := by
  obtain ⟨cur, h1, h2⟩ := h
  exact ⟨cur, by rw [hb]; exact h1, h2⟩
theorem Row.drew (h : Row w g e n f) : Row w.drew g e n f := h
theorem Row.drewN (h : Row w g e n f) (k : Nat) : Row (w.drewN k) g e n f := h
theorem Row.alloc (h : Row w g e n f) (o : Obj) : Row (w.alloc o) g e n f := h.keep (Below.heap_alloc w o g h.lt)
theorem Row.grown {row : Option Nat} (h : Row w g e n f) (hg : w.grownBy w' row) (hne : some g ≠ row) : Row w' g e n f := h.keep (hg.block g h.lt hne)
theorem Row.below {B : Nat} (h : Row w g e n f) (hb : Below B w w') (hg : g < B) : Row w' g e n f := h.keep (hb.block g hg)
theorem Row.other (h : Row w g e n f) {a : Addr} (u : Value) (hne : g ≠ a.block) : Row (w.setCell a u) g e n f := h.keep (Below.heap_setCell w a u g hne)
theorem Row.congr {f' : Nat → Value} (h : Row w g e n f) (hf : ∀ i, i < n → f' i = f i) : Row w g e n f' := by
  obtain ⟨cur, h1, h2⟩ := h
  exact ⟨cur, h1, fun i hi => by rw [hf i hi]; exact h2 i hi⟩
theorem heap_setCell_same {w : World} {g i : Nat} {cur : Array Value} {e : TypeId} {z : Nat × Nat} (u : Value) (h : w.heap[g]? = some (.cells cur e z)) : (w.setCell ⟨g, i, none⟩ u).heap[g]? = some (.cells (cur.setIfInBounds i u) e z) := by
  simp [World.setCell, Array.getElem?_modify, h]
theorem Row.set (h : Row w g e n f) {i : Nat} (u : Value) : Row (w.setCell ⟨g, i, none⟩ u) g e n (upd f i u) := by
  obtain ⟨cur, h1, h2⟩ := h
  refine ⟨cur.setIfInBounds i u, heap_setCell_same u h1, fun j hj => ?_⟩
  rw [Array.getElem?_setIfInBounds]
  by_cases e : i = j
  · subst e
    have := h2 i hj
    have hlt := (Array.getElem?_eq_some_iff.1 this).1
    simp [hlt, upd_same]
  · rw [if_neg e, upd_ne _ _ (Ne.symm e)]
    exact h2 j hj
end

/-- Out of what 'make([]T, n)' leaves. -/
theorem Row.of_owns {w : World} {base : Nat} {e : TypeId} {g n cap : Nat} {xs : List Value} {f : Nat → Value} (h : w.ownsRow base e 1 (.slice (some ⟨g, 0, none⟩) n cap) n xs) (hx : ∀ i, i < n → xs[i]? = some (f i)) : Row w g e n f := by
  obtain ⟨h1, h2⟩ := h
  rcases h2 with ⟨h2, _⟩ | ⟨g', cap', cur, hv, _, hh, _, _, _, ht⟩
  · cases h2
  · cases hv
    refine ⟨cur, hh, fun i hi => ?_⟩
    rw [← hx i hi, ← ht, List.getElem?_take_of_lt (by omega), Array.getElem?_toList]
theorem Row.of_made {w : World} {base : Nat} {e : TypeId} {g n cap : Nat} {z : Value} (h : w.ownsRow base e 1 (.slice (some ⟨g, 0, none⟩) n cap) n (madeCells #[z] n).toList) : Row w g e n (fun _ => z) := by
  refine Row.of_owns h (fun i hi => ?_)
  rw [toList_madeCells_one]
  simp [List.getElem?_replicate, hi]

/-- A slice of integers that is only read: where it holds anything, its cells are there. -/
def SIn (w : World) (k : IntKind) (a : Option Addr) (len : Nat) (f : Nat → Int) : Prop := 0 < len → ∃ b off, a = some ⟨b, off, none⟩ ∧ b < w.heap.size ∧ ∀ i, i < len → w.cell? ⟨b, off + i, none⟩ = some (.int k (f i))
theorem SIn.below {w w' : World} {k : IntKind} {a : Option Addr} {len : Nat} {f : Nat → Int} (h : SIn w k a len f) (hb : Below w.heap.size w w') : SIn w' k a len f := by
  intro hl
  obtain ⟨b, off, h1, h2, h3⟩ := h hl
  have := hb.size
  exact ⟨b, off, h1, by omega, fun i hi => (hb.cell (p := ⟨b, off + i, none⟩) h2).trans (h3 i hi)⟩
theorem SIn.of_row {w : World} {k : IntKind} {g : Nat} {e : TypeId} {len : Nat} {f : Nat → Int} (h : Row w g e len (fun i => .int k (f i))) : SIn w k (some ⟨g, 0, none⟩) len f :=
  fun _ => ⟨g, 0, rfl, h.lt, fun i hi => by rw [Nat.zero_add]; exact h.cell hi⟩


theorem Try.info5 : (Try.prog.info? 5).map (fun i => (i.zero, i.size, i.bytes)) = some (some (.int .u8 0), 1, 1) := by kernel_rfl

theorem clone_rel {k : IntKind} {w wr : World} {g n i : Nat} {f : Nat → Int} {e : TypeId} {z : Value} (hi : i < n) (hB : w.heap.size ≤ g) (hr : Row wr g e n (fun j => if j < i then .int k (f j) else z)) (hb : Below w.heap.size w wr) :
    Row (wr.setCell ⟨g, i, none⟩ (.int k (f i))) g e n (fun j => if j < i + 1 then .int k (f j) else z) ∧ Below w.heap.size w (wr.setCell ⟨g, i, none⟩ (.int k (f i))) := by
  refine ⟨?_, hb.setCell hB _⟩
  refine (hr.set (i := i) (.int k (f i))).congr ?_
  intro j _
  by_cases e : j = i
  · subst e; simp [upd_same]
  · rw [upd_ne _ _ e]
    by_cases h : j < i
    · rw [if_pos h, if_pos (by omega)]
    · rw [if_neg h, if_neg (by omega)]

set_option maxHeartbeats 400000 in
theorem clone_some (b off len cap : Nat) (f : Nat → Int) (w : World) (hl : len ≤ 1048576) (hc : ∀ i, i < len → w.cell? ⟨b, off + i, none⟩ = some (.int .u8 (f i))) (hb : 0 < len → b < w.heap.size) :
    Calls Try.prog 13 #[.slice (some ⟨b, off, none⟩) len cap] w fun e w' => e = .returned (.slice (some ⟨w.heap.size, 0, none⟩) len len) ∧ Below w.heap.size w w' ∧ Row w' w.heap.size 5 len (fun i => .int .u8 (f i)) := by
  obtain ⟨i0, hi, hz0, hz1, hz2⟩ := info_parts Try.info5
  have hnil := Lib.run_eql_slice_nil (P := Try.prog) w 22 5 (some ⟨b, off, none⟩) len cap 0 0 Try.underlying22
  go_enter Try.func13, Try.ntmps13
  go_wp2_with (at_make; refine wpList_make_full _ rfl (.tmp 8) (.tmp 8) 22 rfl w.heap.size 5 i0 (.int .u8 0) 1 Try.underlying22 hi hz0 hz1 .i64 .i64 _ _ len rfl rfl rfl rfl (by rw [hz2]; omega) (by unfold maxLen; omega) (Nat.le_refl _) ?_)
  intro w1 hown hgrow
  have hrow := Row.of_made hown
  have hbel := (Below.refl w.heap.size w).grown hgrow (Nat.le_refl _) (by intro k hk; cases hk)
  clear hown hgrow hnil hi hz0 hz1 hz2
  go_wp2
  go_loopw [4] (fun i wr => ∃ k : Nat, k ≤ len ∧ i = .int .i64 k ∧ Row wr w.heap.size 5 len (fun j => if j < k then .int .u8 (f j) else .int .u8 0) ∧ Below w.heap.size w wr) (fun i _ => len - (intOf i).toNat)
  case atStart => exact ⟨0, Nat.zero_le _, rfl, by simpa using hrow, hbel⟩
  case round =>
    obtain ⟨k, hk, rfl, hr, hbl⟩ := hrel
    by_cases hlt : k < len
    · have hcx : wr.cell? ⟨b, off + k, none⟩ = some (.int .u8 (f k)) := (hbl.cell (by exact hb (by omega))).trans (hc k hlt)
      have hcy := hr.cell hlt
      simp only [Nat.lt_irrefl, if_false] at hcy
      have hfr := hr.free k
      have R := clone_rel hlt (Nat.le_refl _) hr hbl
      clear hr hbl hrow hbel hc
      go_wp2
      go_roundw
      case rel => exact ⟨k + 1, by omega, by go_num, R.1, R.2⟩
      case measure => simp [intOf]; omega
    · clear hrow hbel hc
      go_wp2
      go_ret
      exact ⟨rfl, hbl, hr.congr (fun i hi => by rw [if_pos (by omega)])⟩

theorem clone_nil (len cap : Nat) (w : World) :
    Calls Try.prog 13 #[.slice none len cap] w fun e w' => e = .returned (.slice none 0 0) ∧ w' = w := by
  have hnil := Lib.run_eql_slice_nil (P := Try.prog) w 22 5 none len cap 0 0 Try.underlying22
  go_enter Try.func13, Try.ntmps13
  go_wp2
  go_ret
  exact ⟨rfl, rfl⟩

theorem clone_zero (x : Addr) (cap : Nat) (w : World) :
    Calls Try.prog 13 #[.slice (some x) 0 cap] w fun e w' => e = .returned (.slice (some ⟨w.heap.size, 0, none⟩) 0 0) ∧ Below w.heap.size w w' ∧ Row w' w.heap.size 5 0 (fun _ => undef) := by
  obtain ⟨i0, hi, hz0, hz1, hz2⟩ := info_parts Try.info5
  have hnil := Lib.run_eql_slice_nil (P := Try.prog) w 22 5 (some x) 0 cap 0 0 Try.underlying22
  go_enter Try.func13, Try.ntmps13
  go_wp2_with (at_make; refine wpList_make_full _ rfl (.tmp 8) (.tmp 8) 22 rfl w.heap.size 5 i0 (.int .u8 0) 1 Try.underlying22 hi hz0 hz1 .i64 .i64 _ _ 0 rfl rfl rfl rfl (by omega) (by unfold maxLen; omega) (Nat.le_refl _) ?_)
  intro w1 hown hgrow
  have hrow : Row w1 w.heap.size 5 0 (fun _ => undef) := (Row.of_made hown).congr (fun i hi => by omega)
  have hbel := (Below.refl w.heap.size w).grown hgrow (Nat.le_refl _) (by intro k hk; cases hk)
  have FIN : Hid (Below w.heap.size w w1 ∧ Row w1 w.heap.size 5 0 (fun _ => undef)) := ⟨hbel, hrow⟩
  clear hown hgrow hnil hi hz0 hz1 hz2 hrow hbel
  go_wp2
  refine wp_loop_rounds 1 ?_
  rw [rounds_succ]
  go_wp2
  go_ret
  exact ⟨rfl, FIN.out⟩

set_option maxHeartbeats 400000 in
theorem isBlank_any (c : Int) (w : World) : Calls Try.prog 17 #[.int .u8 c] w fun e w' => e = .returned (.bool (decide (blank c))) ∧ w' = w := by
  by_cases h1 : c = 32
  · subst h1
    go_enter Try.func17, Try.ntmps17
    go_wp2
    go_ret
    exact ⟨rfl, rfl⟩
  · by_cases h2 : c = 9
    · subst h2
      go_enter Try.func17, Try.ntmps17
      go_wp2
      go_ret
      exact ⟨rfl, rfl⟩
    · have y1 : (c == 32) = false := by simp; omega
      have y2 : (c == 9) = false := by simp; omega
      have hb : decide (blank c) = false := by rw [decide_eq_false_iff_not]; rintro (h | h) <;> omega
      rw [hb]
      clear hb h1 h2
      go_enter Try.func17, Try.ntmps17
      go_wp2
      go_ret
      exact ⟨rfl, rfl⟩

theorem zz18_any (a : Option Addr) (len cap : Nat) (p l : Int) (hl : len ≤ maxLen) (w : World) :
    Calls Try.prog 18 #[.slice a len cap, .int .i64 p, .int .i64 l] w fun e w' => ∃ b, e = .returned (.bool b) ∧ w' = w ∧ (b = true → len ≤ 1048576) := by
  have L0 : len ≤ 9223372036854775807 := by unfold maxLen at hl; omega
  by_cases h : (len : Int) ≤ 1048576
  · go_enter Try.func18, Try.ntmps18
    go_wp2_with fail
    go_ret
    exact ⟨_, rfl, rfl, fun _ => by omega⟩
  · refine Calls.mono (R := fun e w' => e = .returned (.bool false) ∧ w' = w) ?_ ?_
    · go_enter Try.func18, Try.ntmps18
      go_wp2_with fail
      go_ret
      exact ⟨rfl, rfl⟩
    · rintro e w' ⟨rfl, rfl⟩
      exact ⟨_, rfl, rfl, fun h => by cases h⟩
end Go.Proofs.Qxb6002372a
