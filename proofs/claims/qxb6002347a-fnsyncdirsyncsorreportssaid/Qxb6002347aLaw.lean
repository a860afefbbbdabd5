/-
  The law's walk.
-/
import Derived.Test.Qxb6002347aSync
set_option linter.all false
namespace Go.Proofs.Qxb6002347a
open Go.RowKit

theorem zz_any (a0 : ByteArray) (a1 : Int) (w0 : a0.size ≤ maxLen) (w : World) :
    Calls Try.prog 11 #[.string a0, .int .i64 a1] w fun e w' => ∃ b, e = .returned (.bool b) ∧ w' = w ∧ (b = true → a0.size ≤ 1048576) := by
  by_cases h : (a0.size : Int) ≤ 1048576
  · go_enter Try.func11, Try.ntmps11
    go_wp2_with fail
    go_ret
    exact ⟨_, rfl, rfl, fun _ => by omega⟩
  · refine Calls.mono (R := fun e w' => e = .returned (.bool false) ∧ w' = w) ?_ ?_
    · go_enter Try.func11, Try.ntmps11
      go_wp2_with fail
      go_ret
      exact ⟨rfl, rfl⟩
    · rintro e w' ⟨rfl, rfl⟩
      exact ⟨_, rfl, rfl, fun h => by cases h⟩

/-- The three ends of SyncDir, as the law reads them. -/
theorem syncdir_any (b : Nat) (fa : Int) (dir : ByteArray) (w : World) (B : Nat) (hB : B ≤ b) (hBw : B ≤ w.heap.size) (h : IsFs w b fa 0 0 false false 0 ByteArray.empty) :
    Calls Try.prog 12 #[.iface 25 (.pointer (some ⟨b, 0, none⟩)), .string dir] w fun e w' =>
      (e = .returned (.iface 81 (.agg #[])) ∧ fa ≠ 0 ∧ ∃ ops, IsFs w' b fa ops 0 false false 0 ByteArray.empty ∧ Below B w w') ∨
      (e = .returned .nilIface ∧ ∃ ops, IsFs w' b fa ops 0 false false 1 dir ∧ Below B w w') := by
  by_cases h1 : ((0 : Int) + 1 == fa) = true
  · refine (syncdir_one b fa dir w B hB h h1).mono ?_
    rintro e w' ⟨rfl, x, y⟩
    exact .inl ⟨rfl, by rintro rfl; simp at h1, _, x, y⟩
  · by_cases h2 : ((0 : Int) + 1 + 1 == fa) = true
    · refine (syncdir_two b fa dir w B hB hBw h (by simpa using h1) h2).mono ?_
      rintro e w' ⟨rfl, x, y⟩
      exact .inl ⟨rfl, by rintro rfl; simp at h2, _, x, y⟩
    · refine (syncdir_ok b fa dir w B hB hBw h (by simpa using h1) (by simpa using h2)).mono ?_
      rintro e w' ⟨rfl, x, y⟩
      exact .inr ⟨rfl, _, x, y⟩

set_option maxRecDepth 100000 in
set_option maxHeartbeats 1000000 in
theorem law_walk (a0 : ByteArray) (a1 : Int) (w0 : a0.size ≤ maxLen) (w1 : (Lit.int .i64 a1).wf = true) (w : World) :
    Calls Try.prog 4 #[.string a0, .int .i64 a1] w fun e w' => e = .returned (.bool true) ∧ Below w.heap.size w w' := by
  go_enter Try.func4, Try.ntmps4
  go_wp2_with fail
  refine (zz_any a0 a1 w0 w).mono ?_
  rintro e w' ⟨b, rfl, rfl, hb⟩
  cases b with
  | false =>
    go_wp2_with fail
    go_ret
    exact ⟨rfl, Below.refl _ _⟩
  | true =>
    have hs := hb rfl
    have hs' : (a0.size : Int) ≤ 1048576 := by omega
    by_cases h1 : a1 < 0
    · go_wp2_with fail
      go_ret
      exact ⟨rfl, Below.refl _ _⟩
    · by_cases h2 : a1 > 64
      · go_wp2_with fail
        go_ret
        exact ⟨rfl, Below.refl _ _⟩
      · go_wp2_with fail
        have hfs : IsFs (w'.alloc (fsObj a1 0 0 false false 0 ByteArray.empty)) w'.heap.size a1 0 0 false false 0 ByteArray.empty := heap_alloc_new w' _
        have hbb : Below w'.heap.size w' (w'.alloc (fsObj a1 0 0 false false 0 ByteArray.empty)) := (Below.refl _ _).alloc (Nat.le_refl _) _
        refine (syncdir_any w'.heap.size a1 a0 _ w'.heap.size (Nat.le_refl _) (by simp) hfs).mono ?_
        rintro e w3 (⟨rfl, hne, ops, h3, hb3⟩ | ⟨rfl, ops, h3, hb3⟩)
        · have hb4 : Hid (Below w'.heap.size w' w3) := hbb.trans hb3
          clear hfs hbb hb3
          obtain ⟨c1, c2, c3, c4, c5, c6, c7⟩ := h3.c
          have hd : decide (a1 = 0) = false := by simp [hne]
          clear h3
          go_upto_region 13 with fail
          go_quiet (fail)
          go_wp2_with fail
          go_ret
          exact ⟨rfl, hb4.out.trans (below_draws' _ _ _)⟩
        · have hb4 : Hid (Below w'.heap.size w' w3) := hbb.trans hb3
          clear hfs hbb hb3
          obtain ⟨c1, c2, c3, c4, c5, c6, c7⟩ := h3.c
          clear h3
          by_cases h0 : a1 = 0
          · subst h0
            go_upto_region 13 with fail
            go_quiet (fail)
            go_wp2_with fail
            go_ret
            exact ⟨rfl, hb4.out.trans (below_draws' _ _ _)⟩
          · have hd : decide (a1 = 0) = false := by simp [h0]
            go_upto_region 13 with fail
            go_quiet (fail)
            go_wp2_with fail
            go_ret
            exact ⟨rfl, hb4.out.trans (below_draws' _ _ _)⟩
end Go.Proofs.Qxb6002347a
