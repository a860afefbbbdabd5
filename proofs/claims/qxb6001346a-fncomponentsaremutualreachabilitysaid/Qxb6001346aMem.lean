/-
  MEMORY: rows of cells that a call made itself, said by a function of the place ('Row'), and what each step of a walk does to them.
-/
import Derived.WalkKit
import Derived.WalkSpells
import Derived.Deep.QuietTactic
import Derived.BigQuiet
import Derived.Lib.SliceRun
import Derived.Test.Qxb6001346aTarjan
set_option linter.all false
namespace Go.Proofs.Qxb6001346a
open Go.RowKit Tj

/-- A row of cells that holds f's values in its first n cells; none of its cells is frozen. -/
def Row (w : World) (g : Nat) (e : TypeId) (n : Nat) (f : Nat → Value) : Prop := ∃ cur, w.heap[g]? = some (.cells cur e (0, 0)) ∧ ∀ i, i < n → cur[i]? = some (f i)

section
variable {w w' : World} {g : Nat} {e : TypeId} {n : Nat} {f : Nat → Value}
theorem Row.cell (h : Row w g e n f) {i : Nat} (hi : i < n) : w.cell? ⟨g, i, none⟩ = some (f i) := by
  obtain ⟨cur, h1, h2⟩ := h
  simp [World.cell?, h1, h2 i hi]
theorem Row.free (h : Row w g e n f) (i : Nat) : w.frozen? ⟨g, i, none⟩ = false := by
  obtain ⟨cur, h1, _⟩ := h
  simp [World.frozen?, h1]
theorem Row.lt (h : Row w g e n f) : g < w.heap.size := by
  obtain ⟨cur, h1, _⟩ := h
  exact (Array.getElem?_eq_some_iff.1 h1).1
theorem Row.keep (h : Row w g e n f) (hb : w'.heap[g]? = w.heap[g]?) : Row w' g e n f := by
  obtain ⟨cur, h1, h2⟩ := h
  exact ⟨cur, by rw [hb]; exact h1, h2⟩
theorem Row.drew (h : Row w g e n f) : Row w.drew g e n f := h
theorem Row.drewN (h : Row w g e n f) (k : Nat) : Row (w.drewN k) g e n f := h
theorem Row.alloc (h : Row w g e n f) (o : Obj) : Row (w.alloc o) g e n f := h.keep (Below.heap_alloc w o g h.lt)
theorem Row.grown {row : Option Nat} (h : Row w g e n f) (hg : w.grownBy w' row) (hne : some g ≠ row) : Row w' g e n f := h.keep (hg.block g h.lt hne)
theorem Row.below {B : Nat} (h : Row w g e n f) (hb : Below B w w') (hg : g < B) : Row w' g e n f := h.keep (hb.block g hg)
theorem Row.other (h : Row w g e n f) {a : Addr} (u : Value) (hne : g ≠ a.block) : Row (w.setCell a u) g e n f := h.keep (Below.heap_setCell w a u g hne)
theorem Row.congr {f' : Nat → Value} (h : Row w g e n f) (hf : ∀ i, i < n → f' i = f i) : Row w g e n f' := by
  obtain ⟨cur, h1, h2⟩ := h
  exact ⟨cur, h1, fun i hi => by rw [hf i hi]; exact h2 i hi⟩
theorem heap_setCell_same {w : World} {g i : Nat} {cur : Array Value} {e : TypeId} {z : Nat × Nat} (u : Value) (h : w.heap[g]? = some (.cells cur e z)) : (w.setCell ⟨g, i, none⟩ u).heap[g]? = some (.cells (cur.setIfInBounds i u) e z) := by
  simp [World.setCell, Array.getElem?_modify, h]
theorem Row.set (h : Row w g e n f) {i : Nat} (u : Value) : Row (w.setCell ⟨g, i, none⟩ u) g e n (upd f i u) := by
  obtain ⟨cur, h1, h2⟩ := h
  refine ⟨cur.setIfInBounds i u, heap_setCell_same u h1, fun j hj => ?_⟩
  rw [Array.getElem?_setIfInBounds]
  by_cases e : i = j
  · subst e
    have := h2 i hj
    have hlt := (Array.getElem?_eq_some_iff.1 this).1
    simp [hlt, upd_same]
  · rw [if_neg e, upd_ne _ _ (Ne.symm e)]
    exact h2 j hj
end

/-- Out of what 'make([]T, n)' leaves. -/
theorem Row.of_owns {w : World} {base : Nat} {e : TypeId} {g n cap : Nat} {xs : List Value} {f : Nat → Value} (h : w.ownsRow base e 1 (.slice (some ⟨g, 0, none⟩) n cap) n xs) (hx : ∀ i, i < n → xs[i]? = some (f i)) : Row w g e n f := by
  obtain ⟨h1, h2⟩ := h
  rcases h2 with ⟨h2, _⟩ | ⟨g', cap', cur, hv, _, hh, _, _, _, ht⟩
  · cases h2
  · cases hv
    refine ⟨cur, hh, fun i hi => ?_⟩
    rw [← hx i hi, ← ht, List.getElem?_take_of_lt (by omega), Array.getElem?_toList]
theorem Row.of_made {w : World} {base : Nat} {e : TypeId} {g n cap : Nat} {z : Value} (h : w.ownsRow base e 1 (.slice (some ⟨g, 0, none⟩) n cap) n (madeCells #[z] n).toList) : Row w g e n (fun _ => z) := by
  refine Row.of_owns h (fun i hi => ?_)
  rw [toList_madeCells_one]
  simp [List.getElem?_replicate, hi]

/-- A slice of integers that is only read: where it holds anything, its cells are there. -/
def SIn (w : World) (k : IntKind) (a : Option Addr) (len : Nat) (f : Nat → Int) : Prop := 0 < len → ∃ b off, a = some ⟨b, off, none⟩ ∧ b < w.heap.size ∧ ∀ i, i < len → w.cell? ⟨b, off + i, none⟩ = some (.int k (f i))
theorem SIn.below {w w' : World} {k : IntKind} {a : Option Addr} {len : Nat} {f : Nat → Int} (h : SIn w k a len f) (hb : Below w.heap.size w w') : SIn w' k a len f := by
  intro hl
  obtain ⟨b, off, h1, h2, h3⟩ := h hl
  have := hb.size
  exact ⟨b, off, h1, by omega, fun i hi => (hb.cell (p := ⟨b, off + i, none⟩) h2).trans (h3 i hi)⟩
theorem SIn.of_row {w : World} {k : IntKind} {g : Nat} {e : TypeId} {len : Nat} {f : Nat → Int} (h : Row w g e len (fun i => .int k (f i))) : SIn w k (some ⟨g, 0, none⟩) len f :=
  fun _ => ⟨g, 0, rfl, h.lt, fun i hi => by rw [Nat.zero_add]; exact h.cell hi⟩

end Go.Proofs.Qxb6001346a
