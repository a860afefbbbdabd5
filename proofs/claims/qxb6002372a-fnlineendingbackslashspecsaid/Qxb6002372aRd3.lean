/-
  The reader: newline.
-/
import Derived.Test.Qxb6002372aRd2
import Derived.Test.Qxb6002372aRdA
import Derived.Test.Qxb6002372aRdB
set_option linter.all false
namespace Go.Proofs.Qxb6002372a
open Go.RowKit

/-- What newline does. -/
def NlPost (w : World) (br bD n pos : Nat) (line : Int) (f : Nat → Int) (r : Ending) (w' : World) : Prop :=
  Below br w w' ∧ ((r = .returned (.bool true) ∧ ((lfAt f n pos ∧ IsR w' br bD n (pos + 1) (wrap64 (line + 1))) ∨ (crAt f n pos ∧ IsR w' br bD n (pos + 2) (wrap64 (line + 1))))) ∨
       (r = .returned (.bool false) ∧ ¬ lfAt f n pos ∧ ¬ crAt f n pos ∧ IsR w' br bD n pos line))

theorem hide' {p : Prop} (h : p) : Hid p := h
theorem nl_step {w w2 : World} {br bD n pos c : Nat} {line x : Int} (h : IsR w2 br bD n pos line) (hb : Below br w w2) :
    IsR ((w2.setCell ⟨br, 1, none⟩ (.int .i64 ((pos : Int) + (c : Int)))).setCell ⟨br, 2, none⟩ (.int .i64 x)) br bD n (pos + c) x ∧ Below br w ((w2.setCell ⟨br, 1, none⟩ (.int .i64 ((pos : Int) + (c : Int)))).setCell ⟨br, 2, none⟩ (.int .i64 x)) := by
  refine ⟨?_, (hb.setCell (Nat.le_refl _) _).setCell (Nat.le_refl _) _⟩
  have := (h.setPos (pos + c)).setLine x
  rw [show ((pos + c : Nat) : Int) = (pos : Int) + (c : Int) from by omega] at this
  exact this

set_option maxRecDepth 100000 in
set_option maxHeartbeats 1000000 in
theorem newline_any {w : World} {br bD n pos : Nat} {line : Int} {f : Nat → Int} (h : IsR w br bD n pos line) (hd : DataAt w br bD n f) (hp : pos ≤ n) :
    Calls Try.prog 44 #[.pointer (some ⟨br, 0, none⟩)] w (NlPost w br bD n pos line f) := by
  have hmax := hd.2.1
  have lt := h.lt
  have H : Hid (IsR w br bD n pos line ∧ DataAt w br bD n f) := ⟨h, hd⟩
  have hb1 : Hid (∀ o, Below w.heap.size w (w.alloc o)) := fun o => (Below.refl _ _).alloc (Nat.le_refl _) o
  have cellA : ∀ (o : Obj) (i : Nat) (row : Array Value) (t : TypeId), o = .cells row t (0, 0) → (w.alloc o).cell? ⟨w.heap.size, i, none⟩ = row[i]? := fun o i row t e => e ▸ cell_of_row _ w.heap.size i row t (0, 0) (heap_alloc_new w _)
  have C := hide' cellA
  clear h hd cellA
  by_cases hL : lfAt f n pos
  · go_enter Try.func44, Try.ntmps44
    go_wp2_with fail
    refine wp_loop_rounds 3 ?_
    rw [rounds_succ]
    go_wp2_with fail
    have A := at_lf (H.out.1.below (hb1.out _) lt) (H.out.2.below ((hb1.out (Obj.cells #[.string ⟨#[10]⟩, .string ⟨#[13, 10]⟩] 9)).mono (Nat.le_of_lt lt))) hp
    rw [decide_eq_true (show pos < n ∧ f pos = 10 from hL)] at A
    refine A.mono ?_
    rintro r w2 ⟨rfl, hb2⟩
    have hb : Below w.heap.size w w2 := (hb1.out _).trans (hb2.mono (by simp))
    have h2 : IsR w2 br bD n pos line := H.out.1.below hb lt
    obtain ⟨c0, c1, c2⟩ := h2.c
    have f1 := h2.fr 1
    have f2 := h2.fr 2
    have FIN := hide' (nl_step (c := 1) (x := wrap64 (line + 1)) h2 (hb.mono (Nat.le_of_lt lt)))
    clear hb2 hb h2 A
    go_wp2_with fail
    go_ret
    exact ⟨FIN.out.2, .inl ⟨rfl, .inl ⟨hL, FIN.out.1⟩⟩⟩
  · by_cases hC : crAt f n pos
    all_goals
      go_enter Try.func44, Try.ntmps44
      go_wp2_with fail
      refine wp_loop_rounds 3 ?_
      rw [rounds_succ]
      go_wp2_with fail
      have A := at_lf (H.out.1.below (hb1.out _) lt) (H.out.2.below ((hb1.out (Obj.cells #[.string ⟨#[10]⟩, .string ⟨#[13, 10]⟩] 9)).mono (Nat.le_of_lt lt))) hp
      rw [decide_eq_false (show ¬ (pos < n ∧ f pos = 10) from hL)] at A
      refine A.mono ?_
      rintro r w2 ⟨rfl, hb2⟩
      have hb : Below w.heap.size w w2 := (hb1.out _).trans (hb2.mono (by simp))
      have h2 : IsR w2 br bD n pos line := H.out.1.below hb lt
      have hcz : w2.cell? ⟨w.heap.size, 1, none⟩ = some (.string ⟨#[13, 10]⟩) := (hb2.cell (p := ⟨w.heap.size, 1, none⟩) (by simp)).trans (C.out _ 1 _ _ rfl)
      have H2 : Hid (Below w.heap.size w w2 ∧ IsR w2 br bD n pos line ∧ DataAt w2 br bD n f ∧ w.heap.size ≤ w2.heap.size) := ⟨hb, h2, H.out.2.below (hb.mono (Nat.le_of_lt lt)), hb.size⟩
      clear hb2 hb h2 A
      go_wp2_with fail
      rw [rounds_succ]
      go_wp2_with fail
      have A := at_crlf H2.out.2.1 H2.out.2.2.1 hp
    · rw [decide_eq_true (show pos + 1 < n ∧ f pos = 13 ∧ f (pos + 1) = 10 from hC)] at A
      refine A.mono ?_
      rintro r w3 ⟨rfl, hb3⟩
      have hb : Below w.heap.size w w3 := H2.out.1.trans (hb3.mono H2.out.2.2.2)
      have h3 : IsR w3 br bD n pos line := H.out.1.below hb lt
      obtain ⟨c0, c1, c2⟩ := h3.c
      have f1 := h3.fr 1
      have f2 := h3.fr 2
      have FIN := hide' (nl_step (c := 2) (x := wrap64 (line + 1)) h3 (hb.mono (Nat.le_of_lt lt)))
      clear hb3 hb h3 A hcz
      go_wp2_with fail
      go_ret
      exact ⟨FIN.out.2, .inl ⟨rfl, .inr ⟨hC, FIN.out.1⟩⟩⟩
    · rw [decide_eq_false (show ¬ (pos + 1 < n ∧ f pos = 13 ∧ f (pos + 1) = 10) from hC)] at A
      refine A.mono ?_
      rintro r w3 ⟨rfl, hb3⟩
      have hb : Below w.heap.size w w3 := H2.out.1.trans (hb3.mono H2.out.2.2.2)
      have h3 : IsR w3 br bD n pos line := H.out.1.below hb lt
      have FIN := hide' (And.intro h3 (hb.mono (Nat.le_of_lt lt)))
      clear hb3 hb h3 A hcz
      go_wp2_with fail
      rw [rounds_succ]
      go_wp2_with fail
      go_ret
      exact ⟨FIN.out.2, .inr ⟨rfl, hL, hC, FIN.out.1⟩⟩
end Go.Proofs.Qxb6002372a
