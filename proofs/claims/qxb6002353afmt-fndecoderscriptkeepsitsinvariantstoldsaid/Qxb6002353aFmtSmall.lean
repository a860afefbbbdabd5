/-
  The decoder's small methods: contracts.
-/
import Derived.Test.Qxb6002353aFmtProg
import Derived.WalkKit
import Derived.WalkSpells
import Derived.Deep.QuietTactic
import Derived.BigQuiet
import Derived.Deep.Cut
import Derived.Stop.CallBack
import Derived.Stop.IfaceNil
import Derived.Stop.FmtTextLaws
import GoSem.ClaimData
set_option linter.all false
namespace Go.Proofs.Qxb6002353aFmt
open Go.RowKit Go.Extern.Stop Go.Stop Go.Extern

/-- An error, as this program makes them: nil, or one at a block. -/
def errV : Option Nat → Value
  | none => .nilIface
  | some k => .iface 51 (.pointer (some ⟨k, 0, none⟩))
/-- The decoder, whole, at block bd: what is left is the slice (a, len, len); the error. -/
def decObj (a : Option Addr) (len : Nat) (e : Option Nat) : Obj := .cells #[.slice a len len, errV e] 45 (0, 0)
def IsDec (w : World) (bd : Nat) (a : Option Addr) (len : Nat) (e : Option Nat) : Prop := w.heap[bd]? = some (decObj a len e)

theorem set_same {w : World} {g i : Nat} {cur : Array Value} {e : TypeId} {z : Nat × Nat} (u : Value) (h : w.heap[g]? = some (.cells cur e z)) : (w.setCell ⟨g, i, none⟩ u).heap[g]? = some (.cells (cur.setIfInBounds i u) e z) := by
  simp [World.setCell, Array.getElem?_modify, h]
section
variable {w : World} {bd : Nat} {a : Option Addr} {len : Nat} {e : Option Nat}
theorem IsDec.c (h : IsDec w bd a len e) : w.cell? ⟨bd, 0, none⟩ = some (.slice a len len) ∧ w.cell? ⟨bd, 1, none⟩ = some (errV e) := by
  simp [World.cell?, show w.heap[bd]? = _ from h, decObj]
theorem IsDec.f (h : IsDec w bd a len e) (i : Nat) : w.frozen? ⟨bd, i, none⟩ = false := by simp [World.frozen?, show w.heap[bd]? = _ from h, decObj]
theorem IsDec.setErr (h : IsDec w bd a len e) (x : Option Nat) : IsDec (w.setCell ⟨bd, 1, none⟩ (errV x)) bd a len x := set_same _ h
theorem IsDec.setRest (h : IsDec w bd a len e) (a' : Option Addr) (len' : Nat) : IsDec (w.setCell ⟨bd, 0, none⟩ (.slice a' len' len')) bd a' len' e := set_same _ h
theorem IsDec.keep (h : IsDec w bd a len e) {w' : World} (e' : w'.heap[bd]? = w.heap[bd]?) : IsDec w' bd a len e := e'.trans h
theorem IsDec.below (h : IsDec w bd a len e) {w' : World} {B : Nat} (hb : Below B w w') (hB : bd < B) : IsDec w' bd a len e := h.keep (hb.block _ hB)
theorem IsDec.lt (h : IsDec w bd a len e) : bd < w.heap.size := (Array.getElem?_eq_some_iff.1 (show w.heap[bd]? = _ from h)).1
end

/-- Err. -/
theorem err_any {bd len : Nat} {a : Option Addr} {e : Option Nat} {w : World} (h : IsDec w bd a len e) :
    Calls Tryf.prog 13 #[.pointer (some ⟨bd, 0, none⟩)] w fun r w' => r = .returned (errV e) ∧ w' = w := by
  obtain ⟨c0, c1⟩ := h.c
  cases e <;>
  · simp only [errV] at c1 ⊢
    go_enter Tryf.func13, Tryf.ntmps13
    go_wp2_with fail
    go_ret
    exact ⟨rfl, rfl⟩

/-- ZZRest. -/
theorem rest_any {bd len : Nat} {a : Option Addr} {e : Option Nat} {w : World} (h : IsDec w bd a len e) :
    Calls Tryf.prog 20 #[.pointer (some ⟨bd, 0, none⟩)] w fun r w' => r = .returned (.slice a len len) ∧ w' = w := by
  obtain ⟨c0, c1⟩ := h.c
  go_enter Tryf.func20, Tryf.ntmps20
  go_wp2_with fail
  go_ret
  exact ⟨rfl, rfl⟩

/-- Fail. -/
theorem fail_any {bd len : Nat} {a : Option Addr} {e : Option Nat} {w : World} (x : Option Nat) (h : IsDec w bd a len e) :
    Calls Tryf.prog 27 #[.pointer (some ⟨bd, 0, none⟩), errV x] w fun r w' => r = .returned (.tuple #[]) ∧ IsDec w' bd a len (if e = none then x else e) ∧ Below bd w w' := by
  obtain ⟨c0, c1⟩ := h.c
  have f1 := h.f 1
  cases e with
  | none =>
    have FIN : Hid (IsDec (w.setCell ⟨bd, 1, none⟩ (errV x)) bd a len x ∧ Below bd w (w.setCell ⟨bd, 1, none⟩ (errV x))) := ⟨h.setErr x, (Below.refl _ _).setCell (p := ⟨bd, 1, none⟩) (Nat.le_refl bd) _⟩
    clear h
    cases x <;>
    · simp only [errV] at c1 FIN ⊢
      go_enter Tryf.func27, Tryf.ntmps27
      go_wp2_with fail
      go_end0
      exact ⟨rfl, FIN.out⟩
  | some k =>
    have FIN : Hid (IsDec w bd a len (some k)) := h
    clear h
    cases x <;>
    · simp only [errV] at c1 FIN ⊢
      go_enter Tryf.func27, Tryf.ntmps27
      go_wp2_with fail
      go_end0
      exact ⟨rfl, FIN.out, Below.refl _ _⟩

/-- errors.New. -/
theorem new_any (s : ByteArray) (w : World) :
    Calls Tryf.prog 29 #[.string s] w fun r w' => ∃ k, r = .returned (errV (some k)) ∧ w.heap.size ≤ k ∧ Below w.heap.size w w' := by
  have FIN : Hid (Below w.heap.size w (w.alloc (.cells #[.string s] 53))) := (Below.refl _ _).alloc (Nat.le_refl _) _
  go_enter Tryf.func29, Tryf.ntmps29
  go_wp2_with fail
  go_ret
  exact ⟨_, rfl, Nat.le_refl _, FIN.out⟩

/-- zzErr. -/
theorem zzerr_any (b : Bool) (w : World) :
    Calls Tryf.prog 28 #[.bool b] w fun r w' => ∃ x : Option Nat, r = .returned (errV x) ∧ (x = none ↔ b = false) ∧ Below w.heap.size w w' := by
  cases b with
  | false =>
    go_enter Tryf.func28, Tryf.ntmps28
    go_wp2_with fail
    go_ret
    exact ⟨none, rfl, by simp, Below.refl _ _⟩
  | true =>
    go_enter Tryf.func28, Tryf.ntmps28
    go_wp2_with fail
    refine (new_any _ w).mono ?_
    rintro r w' ⟨k, rfl, hk, hb⟩
    go_wp2_with fail
    go_ret
    exact ⟨some k, rfl, by simp, hb⟩

/-- More. -/
theorem more_any {bd len : Nat} {a : Option Addr} {e : Option Nat} {w : World} (h : IsDec w bd a len e) :
    Calls Tryf.prog 11 #[.pointer (some ⟨bd, 0, none⟩)] w fun r w' => r = .returned (.bool (e.isNone && decide (0 < len))) ∧ w' = w := by
  obtain ⟨c0, c1⟩ := h.c
  cases e <;>
  · simp only [errV] at c1 ⊢
    go_enter Tryf.func11, Tryf.ntmps11
    go_wp2_with fail
    go_ret
    exact ⟨by simp, rfl⟩
end Go.Proofs.Qxb6002353aFmt
