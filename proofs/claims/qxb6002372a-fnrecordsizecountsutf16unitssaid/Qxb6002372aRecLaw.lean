/-
  FnRecordSizeCountsUTF16Units: the law's walk.
-/
import Derived.Test.Qxb6002372aRec
set_option linter.all false
namespace Go.Proofs.Qxb6002372a
open Go.RowKit

/-- The contract of zzSeqLen. -/
def SeqSaid : Prop := ∀ (s : ByteArray) (i : Nat) (hi : i < s.size) (hs : s.size ≤ 1048576) (w : World),
    Calls Try.prog 29 #[.string s, .int .i64 (i : Int)] w fun r w' => r = .returned (.int .i64 (seqLen s i : Int)) ∧ w' = w

theorem zz28_any (a0 : ByteArray) (a1 : Int) (w0 : a0.size ≤ maxLen) (w : World) :
    Calls Try.prog 28 #[.string a0, .int .i64 a1] w fun e w' => ∃ b, e = .returned (.bool b) ∧ w' = w ∧ (b = true → a0.size ≤ 1048576) := by
  by_cases h : (a0.size : Int) ≤ 1048576
  · go_enter Try.func28, Try.ntmps28
    go_wp2_with fail
    go_ret
    exact ⟨_, rfl, rfl, fun _ => by omega⟩
  · refine Calls.mono (R := fun e w' => e = .returned (.bool false) ∧ w' = w) ?_ ?_
    · go_enter Try.func28, Try.ntmps28
      go_wp2_with fail
      go_ret
      exact ⟨rfl, rfl⟩
    · rintro e w' ⟨rfl, rfl⟩
      exact ⟨_, rfl, rfl, fun h => by cases h⟩

set_option maxRecDepth 100000 in
set_option maxHeartbeats 2000000 in
theorem rec_walk (SEQ : SeqSaid) (s : ByteArray) (d : Int) (w0 : s.size ≤ maxLen) (w : World) :
    Calls Try.prog 9 #[.string s, .int .i64 d] w fun e w' => e = .returned (.bool true) ∧ Below w.heap.size w w' := by
  go_enter Try.func9, Try.ntmps9
  go_wp2_with fail
  refine (zz28_any s d w0 w).mono ?_
  rintro e w' ⟨b, rfl, rfl, hb⟩
  cases b with
  | false =>
    go_wp2_with fail
    go_ret
    exact ⟨rfl, Below.refl _ _⟩
  | true =>
    have hs := hb rfl
    have hs' : (s.size : Int) ≤ 1048576 := by omega
    by_cases h1 : d < -1048576
    · go_wp2_with fail
      go_ret
      exact ⟨rfl, Below.refl _ _⟩
    by_cases h2 : d > 1048576
    · go_wp2_with fail
      go_ret
      exact ⟨rfl, Below.refl _ _⟩
    have hu := unitsAt_le s 0
    go_wp2_with fail
    go_loop [5, 6] (fun u i => ∃ (pos acc : Nat), i = .int .i64 pos ∧ u = .int .i64 (1 + acc : Nat) ∧ acc + unitsAt s pos = unitsAt s 0 ∧ pos ≤ s.size) (fun _ i => s.size - (intOf i).toNat)
    case atStart => exact ⟨0, 0, rfl, rfl, by omega, by omega⟩
    case round =>
      obtain ⟨pos, acc, rfl, rfl, hacc, hpos⟩ := hrel
      by_cases hp : pos < s.size
      · have hrec := unitsAt_rec s pos hp
        have hfit := seqLen_fits s pos hp
        have hb1 := unitsAt_le s (pos + (if seqLen s pos = 0 then 1 else seqLen s pos))
        have H : Hid (acc + unitsAt s pos = unitsAt s 0) := hacc
        have Q := SEQ s pos hp hs
        clear hacc
        by_cases z0 : seqLen s pos = 0
        · rw [if_pos z0, if_neg (by omega)] at hrec
          have HR : Hid (unitsAt s pos = 1 + unitsAt s (pos + 1)) := hrec
          have hle : acc + 1 ≤ 1048576 := by have := H.out; omega
          rw [z0] at Q
          clear hrec hb1 hu hfit z0
          go_wp2_with fail
          refine (Q _).mono ?_
          rintro r _ ⟨rfl, rfl⟩
          go_wp2_with fail
          go_round
          case rel =>
            refine ⟨pos + 1, acc + 1, by go_num, by go_num, ?_, by omega⟩
            have := H.out; have := HR.out; omega
          case measure => simp [intOf]; omega
        · rw [if_neg z0] at hrec hfit hb1
          by_cases z4 : seqLen s pos = 4
          · rw [if_pos z4, z4] at hrec
            rw [z4] at hfit hb1 Q
            have HR : Hid (unitsAt s pos = 2 + unitsAt s (pos + 4)) := hrec
            have hle : acc + 2 ≤ 1048576 := by have := H.out; omega
            clear hrec hb1 hu z0 z4
            go_wp2_with fail
            refine (Q _).mono ?_
            rintro r _ ⟨rfl, rfl⟩
            go_wp2_with fail
            go_round
            case rel =>
              refine ⟨pos + 4, acc + 2, by go_num, by go_num, ?_, by omega⟩
              have := H.out; have := HR.out; omega
            case measure => simp [intOf]; omega
          · rw [if_neg z4] at hrec
            generalize seqLen s pos = k at *
            have HR : Hid (unitsAt s pos = 1 + unitsAt s (pos + k)) := hrec
            have hle : acc + 1 ≤ 1048576 := by have := H.out; omega
            have y0 : ((k : Int) == 0) = false := by simp; omega
            have y4 : ((k : Int) == 4) = false := by simp; omega
            clear hrec hb1 hu
            go_wp2_with fail
            refine (Q _).mono ?_
            rintro r _ ⟨rfl, rfl⟩
            go_wp2_with fail
            go_round
            case rel =>
              refine ⟨pos + k, acc + 1, by go_num, by go_num, ?_, by omega⟩
              have := H.out; have := HR.out; omega
            case measure => simp [intOf]; omega
      · have he := unitsAt_end s pos hp
        have H : Hid (acc = unitsAt s 0) := by show acc = _; omega
        have hle : acc ≤ 1048576 := by omega
        have hd : -1048576 ≤ d ∧ d ≤ 1048576 := by omega
        clear hacc hu he
        go_wp2_with fail
        have R := recordSize_any s d hs hd w'
        rw [← H.out] at R
        refine R.mono ?_
        rintro r w2 ⟨rfl, hb2⟩
        go_wp2_with fail
        go_ret
        exact ⟨rfl, hb2⟩
end Go.Proofs.Qxb6002372a
