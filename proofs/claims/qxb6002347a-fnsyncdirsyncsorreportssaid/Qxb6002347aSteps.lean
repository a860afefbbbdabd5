/-
  The stand-in file system's methods: contracts.
-/
import Derived.Test.Qxb6002347aProg
import Derived.WalkKit
import Derived.WalkSpells
import Derived.Deep.QuietTactic
import Derived.BigQuiet
import Derived.Deep.Cut
import Derived.Defers
set_option linter.all false
namespace Go.Proofs.Qxb6002347a
open Go.RowKit

/-- The stand-in, whole, at block b: no nodes. -/
def fsObj (fa ops opn : Int) (ren dsa : Bool) (ds : Int) (last : ByteArray) : Obj := .cells #[.slice none 0 0, .int .i64 fa, .int .i64 ops, .int .i64 opn, .bool ren, .bool dsa, .int .i64 ds, .string last] 28 (0, 0)
def IsFs (w : World) (b : Nat) (fa ops opn : Int) (ren dsa : Bool) (ds : Int) (last : ByteArray) : Prop := w.heap[b]? = some (fsObj fa ops opn ren dsa ds last)
/-- A directory's handle, whole, at block b. -/
def hObj (bF : Nat) (name : ByteArray) (closed : Bool) : Obj := .cells #[.pointer (some ⟨bF, 0, none⟩), .string name, .pointer none, .bool true, .int .i64 0, .bool closed] 84 (0, 0)
def IsH (w : World) (b bF : Nat) (name : ByteArray) (closed : Bool) : Prop := w.heap[b]? = some (hObj bF name closed)

theorem set_same {w : World} {g i : Nat} {cur : Array Value} {e : TypeId} {z : Nat × Nat} (u : Value) (h : w.heap[g]? = some (.cells cur e z)) : (w.setCell ⟨g, i, none⟩ u).heap[g]? = some (.cells (cur.setIfInBounds i u) e z) := by
  simp [World.setCell, Array.getElem?_modify, h]
section
variable {w : World} {b : Nat} {fa ops opn : Int} {ren dsa : Bool} {ds : Int} {last : ByteArray}
theorem IsFs.c (h : IsFs w b fa ops opn ren dsa ds last) : w.cell? ⟨b, 1, none⟩ = some (.int .i64 fa) ∧ w.cell? ⟨b, 2, none⟩ = some (.int .i64 ops) ∧ w.cell? ⟨b, 3, none⟩ = some (.int .i64 opn) ∧ w.cell? ⟨b, 4, none⟩ = some (.bool ren) ∧ w.cell? ⟨b, 5, none⟩ = some (.bool dsa) ∧ w.cell? ⟨b, 6, none⟩ = some (.int .i64 ds) ∧ w.cell? ⟨b, 7, none⟩ = some (.string last) := by
  simp [World.cell?, show w.heap[b]? = _ from h, fsObj]
theorem IsFs.f (h : IsFs w b fa ops opn ren dsa ds last) (i : Nat) : w.frozen? ⟨b, i, none⟩ = false := by simp [World.frozen?, show w.heap[b]? = _ from h, fsObj]
theorem IsFs.setOps (h : IsFs w b fa ops opn ren dsa ds last) (x : Int) : IsFs (w.setCell ⟨b, 2, none⟩ (.int .i64 x)) b fa x opn ren dsa ds last := set_same _ h
theorem IsFs.setOpen (h : IsFs w b fa ops opn ren dsa ds last) (x : Int) : IsFs (w.setCell ⟨b, 3, none⟩ (.int .i64 x)) b fa ops x ren dsa ds last := set_same _ h
theorem IsFs.setDs (h : IsFs w b fa ops opn ren dsa ds last) (x : Int) : IsFs (w.setCell ⟨b, 6, none⟩ (.int .i64 x)) b fa ops opn ren dsa x last := set_same _ h
theorem IsFs.setLast (h : IsFs w b fa ops opn ren dsa ds last) (x : ByteArray) : IsFs (w.setCell ⟨b, 7, none⟩ (.string x)) b fa ops opn ren dsa ds x := set_same _ h
theorem IsFs.keep (h : IsFs w b fa ops opn ren dsa ds last) {w' : World} (e : w'.heap[b]? = w.heap[b]?) : IsFs w' b fa ops opn ren dsa ds last := e.trans h
theorem IsFs.lt (h : IsFs w b fa ops opn ren dsa ds last) : b < w.heap.size := (Array.getElem?_eq_some_iff.1 (show w.heap[b]? = _ from h)).1
end
section
variable {w : World} {b bF : Nat} {name : ByteArray} {closed : Bool}
theorem IsH.c (h : IsH w b bF name closed) : w.cell? ⟨b, 0, none⟩ = some (.pointer (some ⟨bF, 0, none⟩)) ∧ w.cell? ⟨b, 1, none⟩ = some (.string name) ∧ w.cell? ⟨b, 3, none⟩ = some (.bool true) ∧ w.cell? ⟨b, 5, none⟩ = some (.bool closed) := by
  simp [World.cell?, show w.heap[b]? = _ from h, hObj]
theorem IsH.f (h : IsH w b bF name closed) (i : Nat) : w.frozen? ⟨b, i, none⟩ = false := by simp [World.frozen?, show w.heap[b]? = _ from h, hObj]
theorem IsH.setClosed (h : IsH w b bF name closed) (x : Bool) : IsH (w.setCell ⟨b, 5, none⟩ (.bool x)) b bF name x := set_same _ h
theorem IsH.keep (h : IsH w b bF name closed) {w' : World} (e : w'.heap[b]? = w.heap[b]?) : IsH w' b bF name closed := e.trans h
theorem IsH.lt (h : IsH w b bF name closed) : b < w.heap.size := (Array.getElem?_eq_some_iff.1 (show w.heap[b]? = _ from h)).1
end

/-- step. -/
theorem step_any (b : Nat) (fa ops opn : Int) (ren dsa : Bool) (ds : Int) (last : ByteArray) (w : World) (h : IsFs w b fa ops opn ren dsa ds last) (h0 : 0 ≤ ops) (h1 : ops ≤ 100) :
    Calls Try.prog 45 #[.pointer (some ⟨b, 0, none⟩)] w fun e w' => e = .returned (.bool (ops + 1 == fa)) ∧ ∃ q, w' = (w.setCell ⟨b, 2, none⟩ (.int .i64 (ops + 1))).drewN q := by
  obtain ⟨c1, c2, c3, c4, c5, c6, c7⟩ := h.c
  have f2 := h.f 2
  clear c3 c4 c5 c6 c7
  have h2 := h.setOps (ops + 1)
  obtain ⟨d1, d2, _⟩ := h2.c
  go_enter Try.func45, Try.ntmps45
  go_upto_region 2 with fail
  clear c1 c2 f2 h
  generalize hw2 : w.setCell ⟨b, 2, none⟩ (.int .i64 (ops + 1)) = w2 at d1 d2 h2 ⊢
  have HW : Hid (w.setCell ⟨b, 2, none⟩ (.int .i64 (ops + 1)) = w2) := hw2
  clear hw2
  go_quiet (fail)
  go_wp2
  go_ret
  exact ⟨rfl, _, by rw [← HW.out]⟩
theorem below_draws' (B : Nat) (w : World) (q : Nat) : Below B w (w.drewN q) := ⟨rfl, rfl, rfl, Nat.le_refl _, fun _ _ => rfl⟩

theorem open_fail (b : Nat) (fa ops opn : Int) (ren dsa : Bool) (ds : Int) (last name : ByteArray) (w : World) (B : Nat) (hB : B ≤ b) (h : IsFs w b fa ops opn ren dsa ds last) (h0 : 0 ≤ ops) (h1 : ops ≤ 100) (hf : (ops + 1 == fa) = true) :
    Calls Try.prog 42 #[.pointer (some ⟨b, 0, none⟩), .string name] w fun e w' => e = .returned (.tuple #[.nilIface, .iface 81 (.agg #[])]) ∧ IsFs w' b fa (ops + 1) opn ren dsa ds last ∧ Below B w w' := by
  go_enter Try.func42, Try.ntmps42
  go_wp2_with fail
  refine (step_any b fa ops opn ren dsa ds last w h h0 h1).mono ?_
  rintro e w' ⟨rfl, q, rfl⟩
  rw [hf]
  have FIN : Hid (IsFs ((w.setCell ⟨b, 2, none⟩ (.int .i64 (ops + 1))).drewN q) b fa (ops + 1) opn ren dsa ds last ∧ Below B w ((w.setCell ⟨b, 2, none⟩ (.int .i64 (ops + 1))).drewN q)) := ⟨h.setOps _, ((Below.refl _ _).setCell hB _).trans (below_draws' _ _ _)⟩
  clear h hf
  go_wp2_with fail
  go_ret2
  exact ⟨rfl, FIN.out⟩

theorem open_ok (b : Nat) (fa ops opn : Int) (ren dsa : Bool) (ds : Int) (last name : ByteArray) (w : World) (B : Nat) (hB : B ≤ b) (h : IsFs w b fa ops opn ren dsa ds last) (h0 : 0 ≤ ops) (h1 : ops ≤ 100) (o0 : 0 ≤ opn) (o1 : opn ≤ 100) (hf : (ops + 1 == fa) = false) :
    Calls Try.prog 42 #[.pointer (some ⟨b, 0, none⟩), .string name] w fun e w' => ∃ H, e = .returned (.tuple #[.iface 82 (.pointer (some ⟨H, 0, none⟩)), .nilIface]) ∧ w.heap.size ≤ H ∧ IsH w' H b name false ∧ IsFs w' b fa (ops + 1) (opn + 1) ren dsa ds last ∧ Below B w w' := by
  have hlt := h.lt
  go_enter Try.func42, Try.ntmps42
  go_wp2_with fail
  refine (step_any b fa ops opn ren dsa ds last w h h0 h1).mono ?_
  rintro e w' ⟨rfl, q, rfl⟩
  rw [hf]
  have h2 : IsFs ((w.setCell ⟨b, 2, none⟩ (.int .i64 (ops + 1))).drewN q) b fa (ops + 1) opn ren dsa ds last := h.setOps _
  have hb2 : Below B w ((w.setCell ⟨b, 2, none⟩ (.int .i64 (ops + 1))).drewN q) := ((Below.refl _ _).setCell hB _).trans (below_draws' _ _ _)
  have hs2 : ((w.setCell ⟨b, 2, none⟩ (.int .i64 (ops + 1))).drewN q).heap.size = w.heap.size := by simp [World.setCell]
  have HS : Hid (((w.setCell ⟨b, 2, none⟩ (.int .i64 (ops + 1))).drewN q).heap.size = w.heap.size) := hs2
  clear h hf hs2
  generalize (w.setCell ⟨b, 2, none⟩ (.int .i64 (ops + 1))).drewN q = w2 at h2 hb2 HS ⊢
  obtain ⟨_, _, c3, _⟩ := h2.c
  have f3 := h2.f 3
  have h3 := h2.setOpen (opn + 1)
  have FIN : Hid (w.heap.size ≤ w2.heap.size ∧ IsH ((w2.setCell ⟨b, 3, none⟩ (.int .i64 (opn + 1))).alloc (hObj b name false)) w2.heap.size b name false ∧ IsFs ((w2.setCell ⟨b, 3, none⟩ (.int .i64 (opn + 1))).alloc (hObj b name false)) b fa (ops + 1) (opn + 1) ren dsa ds last ∧ Below B w ((w2.setCell ⟨b, 3, none⟩ (.int .i64 (opn + 1))).alloc (hObj b name false))) := by
    have hss : (w2.setCell ⟨b, 3, none⟩ (.int .i64 (opn + 1))).heap.size = w2.heap.size := by simp [World.setCell]
    have hlt2 := h2.lt
    refine ⟨by rw [HS.out]; exact Nat.le_refl _, ?_, ?_, ?_⟩
    · have := heap_alloc_new (w2.setCell ⟨b, 3, none⟩ (.int .i64 (opn + 1))) (hObj b name false)
      rw [hss] at this
      exact this
    · exact h3.keep (Below.heap_alloc _ _ _ (by rw [hss]; exact hlt2))
    · exact (hb2.setCell hB _).alloc (by rw [hss]; omega) _
  unfold hObj at FIN
  clear h2 h3 hb2
  go_wp2_with fail
  go_ret2
  exact ⟨w2.heap.size, rfl, FIN.out⟩

theorem sync_fail (b H : Nat) (fa ops opn : Int) (ren dsa : Bool) (ds : Int) (last name : ByteArray) (w : World) (B : Nat) (hB : B ≤ b) (h : IsFs w b fa ops opn ren dsa ds last) (hh : IsH w H b name false) (h0 : 0 ≤ ops) (h1 : ops ≤ 100) (hf : (ops + 1 == fa) = true) :
    Calls Try.prog 54 #[.pointer (some ⟨H, 0, none⟩)] w fun e w' => e = .returned (.iface 81 (.agg #[])) ∧ IsH w' H b name false ∧ IsFs w' b fa (ops + 1) opn ren dsa ds last ∧ Below B w w' := by
  obtain ⟨d0, d1, d3, d5⟩ := hh.c
  have hne : H ≠ b := by
    intro e; subst e
    have := (show w.heap[H]? = _ from h).symm.trans hh
    simp [fsObj, hObj] at this
  go_enter Try.func54, Try.ntmps54
  go_wp2_with fail
  refine (step_any b fa ops opn ren dsa ds last w h h0 h1).mono ?_
  rintro e w' ⟨rfl, q, rfl⟩
  rw [hf]
  have FIN : Hid (IsH ((w.setCell ⟨b, 2, none⟩ (.int .i64 (ops + 1))).drewN q) H b name false ∧ IsFs ((w.setCell ⟨b, 2, none⟩ (.int .i64 (ops + 1))).drewN q) b fa (ops + 1) opn ren dsa ds last ∧ Below B w ((w.setCell ⟨b, 2, none⟩ (.int .i64 (ops + 1))).drewN q)) := ⟨hh.keep (Below.heap_setCell _ _ _ _ hne), h.setOps _, ((Below.refl _ _).setCell hB _).trans (below_draws' _ _ _)⟩
  clear h hf hh d0 d1 d3 d5
  go_wp2_with fail
  go_ret
  exact ⟨rfl, FIN.out⟩

set_option maxRecDepth 100000 in
set_option maxHeartbeats 1000000 in
theorem sync_ok (b H : Nat) (fa ops opn : Int) (dsa : Bool) (ds : Int) (last name : ByteArray) (w : World) (B : Nat) (hB : B ≤ b) (h : IsFs w b fa ops opn false dsa ds last) (hh : IsH w H b name false) (h0 : 0 ≤ ops) (h1 : ops ≤ 100) (s0 : 0 ≤ ds) (s1 : ds ≤ 100) (hf : (ops + 1 == fa) = false) :
    Calls Try.prog 54 #[.pointer (some ⟨H, 0, none⟩)] w fun e w' => e = .returned .nilIface ∧ IsH w' H b name false ∧ IsFs w' b fa (ops + 1) opn false dsa (ds + 1) name ∧ Below B w w' := by
  obtain ⟨d0, d1, d3, d5⟩ := hh.c
  have hne : H ≠ b := by
    intro e; subst e
    have := (show w.heap[H]? = _ from h).symm.trans hh
    simp [fsObj, hObj] at this
  go_enter Try.func54, Try.ntmps54
  go_wp2_with fail
  refine (step_any b fa ops opn false dsa ds last w h h0 h1).mono ?_
  rintro e w' ⟨rfl, q, rfl⟩
  rw [hf]
  have h2 : IsFs ((w.setCell ⟨b, 2, none⟩ (.int .i64 (ops + 1))).drewN q) b fa (ops + 1) opn false dsa ds last := h.setOps _
  have hh2 : IsH ((w.setCell ⟨b, 2, none⟩ (.int .i64 (ops + 1))).drewN q) H b name false := hh.keep (Below.heap_setCell _ _ _ _ hne)
  have hb2 : Below B w ((w.setCell ⟨b, 2, none⟩ (.int .i64 (ops + 1))).drewN q) := ((Below.refl _ _).setCell hB _).trans (below_draws' _ _ _)
  clear h hf hh d0 d1 d3 d5
  generalize (w.setCell ⟨b, 2, none⟩ (.int .i64 (ops + 1))).drewN q = w2 at h2 hb2 hh2 ⊢
  obtain ⟨d0, d1, d3, d5⟩ := hh2.c
  obtain ⟨_, _, _, _, _, c6, _⟩ := h2.c
  have f6 := h2.f 6
  go_upto_region 5 with fail
  have h3 := h2.setDs (ds + 1)
  have hh3 := hh2.keep (Below.heap_setCell w2 ⟨b, 6, none⟩ (.int .i64 (ds + 1)) _ hne)
  have hb3 := hb2.setCell (p := ⟨b, 6, none⟩) hB (.int .i64 (ds + 1))
  clear h2 hh2 hb2 d0 d1 d3 d5 c6 f6
  generalize w2.setCell ⟨b, 6, none⟩ (.int .i64 (ds + 1)) = w3 at h3 hh3 hb3 ⊢
  obtain ⟨d0, d1, d3, d5⟩ := hh3.c
  obtain ⟨_, _, _, _, _, _, c7⟩ := h3.c
  have f7 := h3.f 7
  go_region
  have h4 := h3.setLast name
  have hh4 := hh3.keep (Below.heap_setCell w3 ⟨b, 7, none⟩ (.string name) _ hne)
  have hb4 := hb3.setCell (p := ⟨b, 7, none⟩) hB (.string name)
  have FIN : Hid (IsH (w3.setCell ⟨b, 7, none⟩ (.string name)).drew H b name false ∧ IsFs (w3.setCell ⟨b, 7, none⟩ (.string name)).drew b fa (ops + 1) opn false dsa (ds + 1) name ∧ Below B w (w3.setCell ⟨b, 7, none⟩ (.string name)).drew) := ⟨hh4, h4, hb4.drew⟩
  have hh5 : IsH (w3.setCell ⟨b, 7, none⟩ (.string name)).drew H b name false := hh4
  have h5 : IsFs (w3.setCell ⟨b, 7, none⟩ (.string name)).drew b fa (ops + 1) opn false dsa (ds + 1) name := h4
  clear h3 hh3 hb3 h4 hh4 hb4 d0 d1 d3 d5 c7 f7
  generalize (w3.setCell ⟨b, 7, none⟩ (.string name)).drew = w4 at FIN hh5 h5 ⊢
  obtain ⟨d0, d1, d3, d5⟩ := hh5.c
  obtain ⟨_, _, _, c4, _⟩ := h5.c
  go_wp2_with fail
  go_ret
  exact ⟨rfl, FIN.out⟩
end Go.Proofs.Qxb6002347a
