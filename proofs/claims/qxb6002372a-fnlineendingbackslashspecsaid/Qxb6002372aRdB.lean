/-
  The reader's 'at', at CR LF.
-/
import Derived.Test.Qxb6002372aRd
set_option linter.all false
namespace Go.Proofs.Qxb6002372a
open Go.RowKit

set_option maxRecDepth 100000 in
set_option maxHeartbeats 1000000 in
theorem at_crlf {w : World} {br bD n pos : Nat} {line : Int} {f : Nat → Int} (h : IsR w br bD n pos line) (hd : DataAt w br bD n f) (hp : pos ≤ n) :
    Calls Try.prog 54 #[.pointer (some ⟨br, 0, none⟩), .string ⟨#[13, 10]⟩] w fun r w' => r = .returned (.bool (decide (pos + 1 < n ∧ f pos = 13 ∧ f (pos + 1) = 10))) ∧ Below w.heap.size w w' := by
  obtain ⟨c0, c1, _⟩ := h.c
  have lt := h.lt
  have hmax := hd.2.1
  have hcv : ∀ w : World, (convert 9 22 (.string ⟨#[13, 10]⟩)).run Try.prog w = _ := fun w => Lib.run_convert_string_bytes w 9 22 5 _ Try.underlying9 Try.underlying22 Try.underlying5
  have i1 : (0 : Int) ≤ (pos : Int) := by omega
  have i2 : (pos : Int) ≤ (n : Int) := by omega
  go_enter Try.func54, Try.ntmps54
  go_upto_region 1 with fail
  have HP : ∀ (o : Nat), (pos < n → o = pos) → Calls Try.prog 55 #[.slice (some ⟨bD, o, none⟩) (n - pos) (n - pos), .slice (some ⟨w.heap.size, 0, none⟩) 2 (grownCap w.drew 2 0 5)] (Lib.bytesWorld w.drew 5 ⟨#[13, 10]⟩) fun e w' => e = .returned (.bool (decide (pos + 1 < n ∧ f pos = 13 ∧ f (pos + 1) = 10))) ∧ w' = Lib.bytesWorld w.drew 5 ⟨#[13, 10]⟩ := by
    intro o ho
    have hd2 : DataAt (Lib.bytesWorld w.drew 5 ⟨#[13, 10]⟩) br bD n f := hd.below ((Below.refl _ _).drew.trans ((below_bytes w.drew 5 ⟨#[13, 10]⟩).mono (Nat.le_of_lt lt)))
    have := pre_rest hd2 hp o ho w.heap.size 2 (grownCap w.drew 2 0 5) [13, 10] rfl (fun i hi => by
      obtain rfl | rfl : i = 0 ∨ i = 1 := by omega
      · exact Lib.bytesWorld_cell w.drew 5 ⟨#[13, 10]⟩ 0 (by decide)
      · exact Lib.bytesWorld_cell w.drew 5 ⟨#[13, 10]⟩ 1 (by decide))
    rw [crlf_tail f n pos (fun j hj => ⟨(hd.2.2 j hj).1, (hd.2.2 j hj).2.1⟩)] at this
    exact this
  have FIN : Hid (Below w.heap.size w (Lib.bytesWorld w.drew 5 ⟨#[13, 10]⟩)) := (Below.refl _ _).drew.trans (below_bytes w.drew 5 ⟨#[13, 10]⟩)
  have o0 := Lib.bytesWorld_old w.drew 5 ⟨#[13, 10]⟩ ⟨br, 0, none⟩ lt
  have o1 := Lib.bytesWorld_old w.drew 5 ⟨#[13, 10]⟩ ⟨br, 1, none⟩ lt
  clear h hd
  by_cases hlt : pos < n
  · have i3 : (pos : Int) < (n : Int) := by omega
    have hne : ¬ n = pos := by omega
    have HP' := HP pos (fun _ => rfl)
    clear HP
    go_region_with (first | (go_at_call 55; refine HP'.mono ?_; rintro e w' ⟨rfl, rfl⟩))
    all_goals
      go_wp2
      go_ret
      exact ⟨by simp [hlt]; rfl, FIN.out⟩
  · have hne : n = pos := by omega
    subst hne
    have HP' := HP 0 (fun h => absurd h hlt)
    clear HP
    simp only [Nat.sub_self] at HP'
    go_region_with (first | (go_at_call 55; refine HP'.mono ?_; rintro e w' ⟨rfl, rfl⟩))
    all_goals
      go_wp2
      go_ret
      exact ⟨by simp; rfl, FIN.out⟩
end Go.Proofs.Qxb6002372a
