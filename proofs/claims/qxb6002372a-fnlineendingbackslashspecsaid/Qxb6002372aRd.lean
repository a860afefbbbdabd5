/-
  The reader: contracts of its small methods.
-/
import Derived.Test.Qxb6002372aPfx
import Derived.Deep.QuietTactic
import Derived.BigQuiet
import Derived.Deep.Cut
import Derived.Deep.RegionHeld3
set_option linter.all false
namespace Go.Proofs.Qxb6002372a
open Go.RowKit

/-- The reader, whole, at block br: over the n bytes at block bD. -/
def IsR (w : World) (br bD n pos : Nat) (line : Int) : Prop := w.heap[br]? = some (.cells #[.slice (some ⟨bD, 0, none⟩) n n, .int .i64 (pos : Int), .int .i64 line] 63 (0, 0))
/-- The bytes. -/
def DataAt (w : World) (br bD n : Nat) (f : Nat → Int) : Prop := bD < br ∧ n ≤ 1048576 ∧ ∀ j, j < n → 0 ≤ f j ∧ f j ≤ 255 ∧ w.cell? ⟨bD, j, none⟩ = some (.int .u8 (f j))
theorem set_same {w : World} {g i : Nat} {cur : Array Value} {e : TypeId} {z : Nat × Nat} (u : Value) (h : w.heap[g]? = some (.cells cur e z)) : (w.setCell ⟨g, i, none⟩ u).heap[g]? = some (.cells (cur.setIfInBounds i u) e z) := by
  simp [World.setCell, Array.getElem?_modify, h]
section
variable {w w' : World} {br bD n pos : Nat} {line : Int} {f : Nat → Int}
theorem IsR.c (h : IsR w br bD n pos line) : w.cell? ⟨br, 0, none⟩ = some (.slice (some ⟨bD, 0, none⟩) n n) ∧ w.cell? ⟨br, 1, none⟩ = some (.int .i64 (pos : Int)) ∧ w.cell? ⟨br, 2, none⟩ = some (.int .i64 line) := by
  simp [World.cell?, show w.heap[br]? = _ from h]
theorem IsR.fr (h : IsR w br bD n pos line) (i : Nat) : w.frozen? ⟨br, i, none⟩ = false := by simp [World.frozen?, show w.heap[br]? = _ from h]
theorem IsR.setPos (h : IsR w br bD n pos line) (x : Nat) : IsR (w.setCell ⟨br, 1, none⟩ (.int .i64 (x : Int))) br bD n x line := set_same _ h
theorem IsR.setLine (h : IsR w br bD n pos line) (x : Int) : IsR (w.setCell ⟨br, 2, none⟩ (.int .i64 x)) br bD n pos x := set_same _ h
theorem IsR.keep (h : IsR w br bD n pos line) (e : w'.heap[br]? = w.heap[br]?) : IsR w' br bD n pos line := e.trans h
theorem IsR.lt (h : IsR w br bD n pos line) : br < w.heap.size := (Array.getElem?_eq_some_iff.1 (show w.heap[br]? = _ from h)).1
theorem IsR.below {B : Nat} (h : IsR w br bD n pos line) (hb : Below B w w') (hB : br < B) : IsR w' br bD n pos line := h.keep (hb.block _ hB)
theorem DataAt.below (h : DataAt w br bD n f) (hb : Below br w w') : DataAt w' br bD n f :=
  ⟨h.1, h.2.1, fun j hj => ⟨(h.2.2 j hj).1, (h.2.2 j hj).2.1, (hb.cell (p := ⟨bD, j, none⟩) h.1).trans (h.2.2 j hj).2.2⟩⟩
end
theorem below_draws' (B : Nat) (w : World) (q : Nat) : Below B w (w.drewN q) := ⟨rfl, rfl, rfl, Nat.le_refl _, fun _ _ => rfl⟩
theorem below_bytes (w : World) (e : TypeId) (s : ByteArray) : Below w.heap.size w (Lib.bytesWorld w e s) := ⟨rfl, rfl, rfl, by rw [Lib.bytesWorld_size]; omega, fun k hk => Lib.bytesWorld_at_old w e s k hk⟩

/-- The bytes from 'pos' on, as a list. -/
def tailOf (f : Nat → Int) (n pos : Nat) : List Int := (List.range (n - pos)).map fun i => f (pos + i)
theorem tailOf_len (f : Nat → Int) (n pos : Nat) : (tailOf f n pos).length = n - pos := by simp [tailOf]
theorem tailOf_getD (f : Nat → Int) (n pos i : Nat) (h : i < n - pos) : (tailOf f n pos).getD i 0 = f (pos + i) := by
  simp [tailOf, List.getD_eq_getElem?_getD, h]
theorem tailOf_mem (f : Nat → Int) (n pos : Nat) (hf : ∀ j, j < n → 0 ≤ f j ∧ f j ≤ 255) : ∀ x ∈ tailOf f n pos, 0 ≤ x ∧ x ≤ 255 := by
  intro x hx
  simp only [tailOf, List.mem_map, List.mem_range] at hx
  obtain ⟨i, hi, rfl⟩ := hx
  exact hf _ (by omega)
theorem lf_tail (f : Nat → Int) (n pos : Nat) (hf : ∀ j, j < n → 0 ≤ f j ∧ f j ≤ 255) : Lib.hasPrefix (Lib.bytesOf (tailOf f n pos)) (Lib.bytesOf [10]) = decide (pos < n ∧ f pos = 10) := by
  rw [pre_lf _ (tailOf_mem f n pos hf), tailOf_len]
  by_cases h : pos < n
  · rw [tailOf_getD f n pos 0 (by omega), Nat.add_zero]
    have h' : 0 < n - pos := by omega
    by_cases e : f pos = 10 <;> simp [h, h', e]
  · have h' : ¬ 0 < n - pos := by omega
    simp [h, h']
theorem crlf_tail (f : Nat → Int) (n pos : Nat) (hf : ∀ j, j < n → 0 ≤ f j ∧ f j ≤ 255) : Lib.hasPrefix (Lib.bytesOf (tailOf f n pos)) (Lib.bytesOf [13, 10]) = decide (pos + 1 < n ∧ f pos = 13 ∧ f (pos + 1) = 10) := by
  rw [pre_crlf _ (tailOf_mem f n pos hf), tailOf_len]
  by_cases h : pos + 1 < n
  · rw [tailOf_getD f n pos 0 (by omega), tailOf_getD f n pos 1 (by omega), Nat.add_zero]
    by_cases e : f pos = 13 <;> by_cases e' : f (pos + 1) = 10 <;> simp [h, e, e']
    all_goals omega
  · have h' : ¬ 1 < n - pos := by omega
    simp [h, h']

/-- bytes.HasPrefix of the rest, the prefix at a new block. -/
theorem pre_rest {w : World} {br bD n pos : Nat} {f : Nat → Int} (hd : DataAt w br bD n f) (hp : pos ≤ n) (o : Nat) (ho : pos < n → o = pos) (b2 : Nat) (m d : Nat) (ys : List Int) (hy : ys.length = m) (hc2 : ∀ i, i < m → w.cell? ⟨b2, i, none⟩ = some (.int .u8 (ys.getD i 0))) :
    Calls Try.prog 55 #[.slice (some ⟨bD, o, none⟩) (n - pos) (n - pos), .slice (some ⟨b2, 0, none⟩) m d] w fun e w' => e = .returned (.bool (Lib.hasPrefix (Lib.bytesOf (tailOf f n pos)) (Lib.bytesOf ys))) ∧ w' = w := by
  refine hasPrefix_any bD o (n - pos) (n - pos) b2 0 m d (tailOf f n pos) ys w (tailOf_len _ _ _) hy (Nat.le_refl _) ?_ ?_
  · intro i hi
    rw [tailOf_getD f n pos i hi, ho (by omega)]
    exact (hd.2.2 (pos + i) (by omega)).2.2
  · intro i hi
    rw [Nat.zero_add]; exact hc2 i hi

end Go.Proofs.Qxb6002372a
