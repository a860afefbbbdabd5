/-
  WHAT ZZComponents SAYS, for whoever calls it.
-/
import Derived.Test.Qxb6001346aRep
import Derived.Test.Qxb6001346aFits
import Derived.OpenShut
set_option linter.all false
namespace Go.Proofs.Qxb6001346a
open Go.RowKit Go.WideShapes Tj

/-- What components leaves. -/
def CompPost (g : Gr) (n : Nat) (w : World) (e : Ending) (w' : World) : Prop := ∃ gM vZ comp size, e = .returned (.tuple #[.slice (some ⟨gM, 0, none⟩) n n, vZ]) ∧ Below w.heap.size w w' ∧ Row w' gM 21 n (fun i => .int .i32 ((comp i : Nat) : Int)) ∧ w'.ownsRow w.heap.size 21 1 vZ size.length (ints size) ∧ Res g comp size

/-- The graph that the three slices say. -/
def mkG (l0 : Nat) (f0 f1 f2 : Nat → Int) (mask : Int) : Gr := Gr.mk (l0 - 1) (fun i => (f0 i).toNat) (fun e => (f1 e).toNat) (fun e => !(bits .and .u8 (f2 e) mask == 0))

theorem Fits.nonneg {l0 l1 l2 : Nat} {f0 f1 : Nat → Int} (F : Fits l0 l1 l2 f0 f1) : ∀ i, i ≤ l0 - 1 → 0 ≤ f0 i
  | 0, _ => by rw [F.zero]; omega
  | i + 1, h => by
    have h1 := F.nonneg i (by omega)
    have h2 := F.mono i (by omega)
    omega
theorem Fits.st_eq {l0 l1 l2 : Nat} {f0 f1 : Nat → Int} (F : Fits l0 l1 l2 f0 f1) {i : Nat} (h : i < l0) : f0 i = ((f0 i).toNat : Int) := by
  have := F.nonneg i (by omega)
  omega
theorem Fits.to_eq {l0 l1 l2 : Nat} {f0 f1 : Nat → Int} (F : Fits l0 l1 l2 f0 f1) {e : Nat} (h : e < l1) : f1 e = ((f1 e).toNat : Int) := by
  have := F.tgt e h
  omega
theorem Fits.wf {l0 l1 l2 : Nat} {f0 f1 : Nat → Int} (F : Fits l0 l1 l2 f0 f1) (f2 : Nat → Int) (mask : Int) : (mkG l0 f0 f1 f2 mask).Wf l1 where
  mono := by
    intro i hi
    have h1 := F.mono i hi
    have h2 := F.nonneg i (by have : i < l0 - 1 := hi; omega)
    simp only [mkG]
    omega
  last := by
    have := F.last
    simp only [mkG]
    omega
  tgt := by
    intro e he
    have := F.tgt e he
    simp only [mkG]
    omega

theorem owns_base {w : World} {base base' : Nat} {e : TypeId} {size : Nat} {v : Value} {n : Nat} {xs : List Value} (h : w.ownsRow base e size v n xs) (hb : base' ≤ base) : w.ownsRow base' e size v n xs := by
  refine ⟨h.1, ?_⟩
  rcases h.2 with h2 | ⟨g, cap, cur, hv, hg, r⟩
  · exact .inl h2
  · exact .inr ⟨g, cap, cur, hv, by omega, r⟩

/-- The contract of ZZComponents. -/
def ZZSaid : Prop := ∀ (w : World) (l0 l1 : Nat) (a0 : Option Addr) (c0 : Nat) (a1 : Option Addr) (c1 : Nat) (a2 : Option Addr) (c2 : Nat) (f0 f1 f2 : Nat → Int) (mask : Int), Fits l0 l1 l1 f0 f1 → SIn w .i32 a0 l0 f0 → SIn w .i32 a1 l1 f1 → SIn w .u8 a2 l1 f2 →
    Calls Try.prog 16 #[.slice a0 l0 c0, .slice a1 l1 c1, .slice a2 l1 c2, .int .u8 mask] w (CompPost (mkG l0 f0 f1 f2 mask) (l0 - 1) w)

/-- A slice of integers that came in. -/
def IsRowIn (k : IntKind) (w : World) (a : Option Addr) (len cap : Nat) (zs : List Int) : Prop :=
  (a = none ∧ len = 0 ∧ cap = 0 ∧ zs = []) ∨
  ∃ x, a = some x ∧ len ≤ cap ∧ cap ≤ maxLen ∧ zs.length = cap ∧ (∀ i, i < zs.length → w.cell? (x.add i) = some (.int k (zs.getD i 0))) ∧ ∀ n ∈ zs, (Lit.int k n).wf = true
theorem IsRowIn.sin {k : IntKind} {w : World} {a : Option Addr} {len cap : Nat} {zs : List Int} (h : IsRowIn k w a len cap zs) : SIn w k a len (fun i => zs.getD i 0) := by
  intro hl
  rcases h with ⟨_, h2, _⟩ | ⟨x, rfl, h1, _, h3, h4, _⟩
  · omega
  · obtain ⟨b, off, spot⟩ := x
    have h0 := h4 0 (by omega)
    have hs : spot = none := by simpa [Addr.add] using World.cell?_spot h0
    subst hs
    refine ⟨b, off, rfl, ?_, fun i hi => ?_⟩
    · exact World.block_lt_of_cell? w _ h0
    · rw [← add_plain]; exact h4 i (by omega)
theorem IsRowIn.le {k : IntKind} {w : World} {a : Option Addr} {len cap : Nat} {zs : List Int} (h : IsRowIn k w a len cap zs) : len ≤ maxLen := by
  rcases h with ⟨_, h2, _⟩ | ⟨x, _, h1, h2, _⟩
  · omega
  · omega
theorem IsRowIn.nil {k : IntKind} {w : World} {a : Option Addr} {len cap : Nat} {zs : List Int} (h : IsRowIn k w a len cap zs) : a = none → len = 0 := by
  rcases h with ⟨_, h2, _⟩ | ⟨x, e, _⟩
  · exact fun _ => h2
  · intro e'; rw [e] at e'; cases e'
theorem IsRowIn.range {w : World} {a : Option Addr} {len cap : Nat} {zs : List Int} (h : IsRowIn .i32 w a len cap zs) (i : Nat) : -2147483648 ≤ zs.getD i 0 ∧ zs.getD i 0 ≤ 2147483647 := by
  have hw : ∀ n ∈ zs, (Lit.int .i32 n).wf = true := by
    rcases h with ⟨_, _, _, rfl⟩ | ⟨x, _, _, _, _, _, h6⟩
    · intro n hn; cases hn
    · exact h6
  have := range_i32 hw i
  simpa [List.getD_eq_getElem?_getD] using this
theorem below_draw (w : World) (q : Nat) : Below w.heap.size w (w.drewN q) := ⟨rfl, rfl, rfl, Nat.le_refl _, fun _ _ => rfl⟩

end Go.Proofs.Qxb6001346a
