/-
  The reader: skipBlanks, newline.
-/
import Derived.Test.Qxb6002372aRd
import Derived.Test.Qxb6002372aLineMem
set_option linter.all false
namespace Go.Proofs.Qxb6002372a
open Go.RowKit

def posOf (w : World) (br : Nat) : Nat := match w.cell? ⟨br, 1, none⟩ with | some (.int _ z) => z.toNat | _ => 0
theorem IsR.posOf {w : World} {br bD n pos : Nat} {line : Int} (h : IsR w br bD n pos line) : posOf w br = pos := by simp [Go.Proofs.Qxb6002372a.posOf, h.c.2.1]

/-- One step of skipBlanks. -/
theorem skip_step {w wr : World} {br bD n k : Nat} {line : Int} (hr : IsR wr br bD n k line) (hb : Below br w wr) (q : Nat) :
    IsR ((wr.drewN q).setCell ⟨br, 1, none⟩ (.int .i64 ((k : Int) + 1))) br bD n (k + 1) line ∧ Below br w ((wr.drewN q).setCell ⟨br, 1, none⟩ (.int .i64 ((k : Int) + 1))) := by
  refine ⟨?_, (hb.trans (below_draws' br wr q)).setCell (Nat.le_refl _) _⟩
  have := (show IsR (wr.drewN q) br bD n k line from hr).setPos (k + 1)
  rw [show ((k + 1 : Nat) : Int) = (k : Int) + 1 from by omega] at this
  exact this

set_option maxRecDepth 100000 in
set_option maxHeartbeats 1000000 in
theorem skip_any {w : World} {br bD n pos : Nat} {line : Int} {f : Nat → Int} (h : IsR w br bD n pos line) (hd : DataAt w br bD n f) (hp : pos ≤ n) :
    Calls Try.prog 43 #[.pointer (some ⟨br, 0, none⟩)] w fun r w' => r = .returned (.tuple #[]) ∧ ∃ k, Skip f n pos k ∧ IsR w' br bD n k line ∧ Below br w w' := by
  have hmax := hd.2.1
  go_enter Try.func43, Try.ntmps43
  go_wp2
  go_loopw [] (fun wr => ∃ k, pos ≤ k ∧ k ≤ n ∧ (∀ j, pos ≤ j → j < k → blank (f j)) ∧ IsR wr br bD n k line ∧ Below br w wr) (fun wr => n - posOf wr br)
  case atStart => exact ⟨pos, Nat.le_refl _, hp, fun j h1 h2 => by omega, h, Below.refl _ _⟩
  case round =>
    obtain ⟨k, h1, h2, hall, hr, hbl⟩ := hrel
    obtain ⟨c0, c1, c2⟩ := hr.c
    have fr := hr.fr 1
    have hpo := hr.posOf
    have H : Hid ((∀ j, pos ≤ j → j < k → blank (f j)) ∧ IsR wr br bD n k line ∧ Below br w wr ∧ Go.Proofs.Qxb6002372a.posOf wr br = k) := ⟨hall, hr, hbl, hpo⟩
    by_cases hlt : k < n
    · have hcell := ((hd.below hbl).2.2 k hlt).2.2
      have i1 : (0 : Int) ≤ (k : Int) := by omega
      have i2 : (k : Int) < (n : Int) := by omega
      have i3 : decide ((k : Int) < (n : Int)) = true := by simp [hlt]
      clear h hd hr hbl hall hpo
      by_cases e1 : f k = 32
      · rw [e1] at hcell
        go_upto_region 0 with fail
        go_quiet (fail)
        go_wp2
        go_roundw
        case rel =>
          refine ⟨k + 1, by omega, by omega, fun j a b => ?_, (skip_step H.out.2.1 H.out.2.2.1 _).1, (skip_step (bD := bD) (n := n) (line := line) H.out.2.1 H.out.2.2.1 _).2⟩
          by_cases e : j = k
          · rw [e]; exact .inl e1
          · exact H.out.1 j a (by omega)
        case measure =>
          have e := (skip_step (bD := bD) (n := n) (line := line) H.out.2.1 H.out.2.2.1 nq).1.posOf
          rw [H.out.2.2.2]
          rw [e]
          omega
      · by_cases e2 : f k = 9
        · rw [e2] at hcell
          go_upto_region 0 with fail
          go_quiet (fail)
          go_wp2
          go_roundw
          case rel =>
            refine ⟨k + 1, by omega, by omega, fun j a b => ?_, (skip_step H.out.2.1 H.out.2.2.1 _).1, (skip_step (bD := bD) (n := n) (line := line) H.out.2.1 H.out.2.2.1 _).2⟩
            by_cases e : j = k
            · rw [e]; exact .inr e2
            · exact H.out.1 j a (by omega)
          case measure =>
            have e := (skip_step (bD := bD) (n := n) (line := line) H.out.2.1 H.out.2.2.1 nq).1.posOf
            rw [H.out.2.2.2]
            rw [e]
            omega
        · have y1 : (f k == 32) = false := by simp; omega
          have y2 : (f k == 9) = false := by simp; omega
          have H2 : Hid (¬ blank (f k)) := by rintro (h | h) <;> omega
          clear e1 e2
          go_upto_region 0 with fail
          go_quiet (fail)
          go_wp2
          go_end0
          exact ⟨rfl, k, ⟨h1, h2, H.out.1, fun _ => H2.out⟩, H.out.2.1, H.out.2.2.1.trans (below_draws' _ _ _)⟩
    · have i3 : decide ((k : Int) < (n : Int)) = false := by simp; omega
      clear h hd hr hbl hall hpo
      go_upto_region 0 with fail
      go_quiet (fail)
      go_wp2
      go_end0
      exact ⟨rfl, k, ⟨h1, h2, H.out.1, fun h => absurd h hlt⟩, H.out.2.1, H.out.2.2.1.trans (below_draws' _ _ _)⟩
end Go.Proofs.Qxb6002372a
