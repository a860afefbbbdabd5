/-
  ZZLineEndingBackslash.
-/
import Derived.Test.Qxb6002372aRd4
set_option linter.all false
namespace Go.Proofs.Qxb6002372a
open Go.RowKit

/-- What it answers. -/
def ZPost (w : World) (n pos : Nat) (line : Int) (f : Nat → Int) (r : Ending) (w' : World) : Prop :=
  Below w.heap.size w w' ∧ ∃ k, Skip f n (pos + 1) k ∧
    ((∃ q c : Nat, r = .returned (.tuple #[.bool true, .int .i64 (q : Int), .int .i64 (lineAt line c)]) ∧ (lfAt f n k ∨ crAt f n k) ∧ Str f n (pos + 1) q c ∧ 1 ≤ c ∧ ¬ lfAt f n q ∧ ¬ crAt f n q ∧ (q < n → ¬ blank (f q))) ∨
     (r = .returned (.tuple #[.bool false, .int .i64 (pos : Int), .int .i64 line]) ∧ ¬ lfAt f n k ∧ ¬ crAt f n k))

set_option maxRecDepth 100000 in
set_option maxHeartbeats 1000000 in
theorem zz16_any {w : World} {bD n pos : Nat} {line : Int} {f : Nat → Int} (hn : n ≤ 1048576) (hD : bD < w.heap.size) (hc : ∀ j, j < n → 0 ≤ f j ∧ f j ≤ 255 ∧ w.cell? ⟨bD, j, none⟩ = some (.int .u8 (f j))) (hp : pos < n) (hl : -9223372036854775808 ≤ line ∧ line ≤ 9223372036854775807) :
    Calls Try.prog 16 #[.slice (some ⟨bD, 0, none⟩) n n, .int .i64 (pos : Int), .int .i64 line] w (ZPost w n pos line f) := by
  have H := hide' hc
  have hb0 : Hid (∀ o, Below w.heap.size w (w.alloc o)) := fun o => (Below.refl _ _).alloc (Nat.le_refl _) o
  clear hc
  go_enter Try.func16, Try.ntmps16
  go_wp2_with fail
  have h0 : ∀ o, o = Obj.cells #[.slice (some ⟨bD, 0, none⟩) n n, .int .i64 (pos : Int), .int .i64 line] 63 (0, 0) → IsR (w.alloc o) w.heap.size bD n pos line := fun o e => e ▸ heap_alloc_new w _
  have hd0 : ∀ o, DataAt (w.alloc o) w.heap.size bD n f := fun o => ⟨hD, hn, fun j hj => ⟨(H.out j hj).1, (H.out j hj).2.1, ((hb0.out o).cell (p := ⟨bD, j, none⟩) hD).trans (H.out j hj).2.2⟩⟩
  refine (lineEnding_any (h0 _ rfl) (hd0 _) hp hl).mono ?_
  rintro r w2 ⟨hb2, k, hsk, hres⟩
  have HB := hide' (And.intro ((hb0.out _).trans hb2) hsk)
  clear h0 hd0 hb2 hsk
  rcases hres with ⟨rfl, hlf, q, c, h1, h2, h3, h4, h5, h6⟩ | ⟨rfl, h1, h2, h6⟩
  · obtain ⟨d0, d1, d2⟩ := h6.c
    have FIN := hide' (And.intro hlf (And.intro h1 (And.intro h2 (And.intro h3 (And.intro h4 h5)))))
    clear hlf h1 h2 h3 h4 h5 h6
    go_upto_region 3 with fail
    go_quiet (fail)
    go_wp2
    go_ret3
    exact ⟨HB.out.1.trans (below_draws' _ _ _), k, HB.out.2, .inl ⟨q, c, rfl, FIN.out⟩⟩
  · obtain ⟨d0, d1, d2⟩ := h6.c
    have FIN := hide' (And.intro h1 h2)
    clear h1 h2 h6
    go_upto_region 3 with fail
    go_quiet (fail)
    go_wp2
    go_ret3
    exact ⟨HB.out.1.trans (below_draws' _ _ _), k, HB.out.2, .inr ⟨rfl, FIN.out⟩⟩
end Go.Proofs.Qxb6002372a
