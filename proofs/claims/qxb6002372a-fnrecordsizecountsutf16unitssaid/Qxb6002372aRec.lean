/-
  RecordSize and zzSeqLen: contracts.
-/
import Derived.Test.Qxb6002372aProg
import Derived.WalkKit
import Derived.WalkSpells
import Derived.Lib.OthersKept
import Derived.Laws.RangeString
import Derived.Laws.RangeAny
import Derived.Test.Qxb6002372aUtf
set_option linter.all false
namespace Go.Proofs.Qxb6002372a
open Go.RowKit

set_option maxRecDepth 100000 in
theorem runeLen_one (c : Int) (h0 : 0 ≤ c) (h1 : c < 65536) (h2 : c < 55296 ∨ 57344 ≤ c) (w : World) :
    Calls Try.prog 50 #[.int .i32 c] w fun r w' => r = .returned (.int .i64 1) ∧ w' = w := by
  rcases h2 with h2 | h2
  · go_enter Try.func50, Try.ntmps50
    go_wp2
    go_ret
    exact ⟨rfl, rfl⟩
  · have h3 : ¬ c < 55296 := by omega
    go_enter Try.func50, Try.ntmps50
    go_wp2
    go_ret
    exact ⟨rfl, rfl⟩
set_option maxRecDepth 100000 in
theorem runeLen_two (c : Int) (h0 : 0 ≤ c) (h1 : c ≤ 1114111) (h2 : 65536 ≤ c) (w : World) :
    Calls Try.prog 50 #[.int .i32 c] w fun r w' => r = .returned (.int .i64 2) ∧ w' = w := by
  have h3 : ¬ c < 55296 := by omega
  have h4 : ¬ c < 65536 := by omega
  have h5 : 57344 ≤ c := by omega
  go_enter Try.func50, Try.ntmps50
  go_wp2
  go_ret
  exact ⟨rfl, rfl⟩

theorem in_any (c lo hi : Int) (w : World) : Calls Try.prog 49 #[.int .u8 c, .int .u8 lo, .int .u8 hi] w fun r w' => r = .returned (.bool (decide (lo ≤ c) && decide (c ≤ hi))) ∧ w' = w := by
  by_cases h : lo ≤ c
  · by_cases h2 : c ≤ hi
    · go_enter Try.func49, Try.ntmps49
      go_wp2
      go_ret
      exact ⟨by simp [h, h2], rfl⟩
    · go_enter Try.func49, Try.ntmps49
      go_wp2
      go_ret
      exact ⟨by simp [h, h2], rfl⟩
  · have H : Hid (¬ lo ≤ c) := h
    go_enter Try.func49, Try.ntmps49
    go_wp2
    go_ret
    exact ⟨by rw [decide_eq_false (by have := H.out; omega)]; rfl, rfl⟩

theorem below_iter (w : World) (s : ByteArray) (pos : Nat) : Below w.heap.size w (w.iter s pos) := (Below.refl _ _).alloc (Nat.le_refl _) _
set_option maxHeartbeats 1000000 in
theorem recordSize_any (s : ByteArray) (d : Int) (hs : s.size ≤ 1048576) (hd : -1048576 ≤ d ∧ d ≤ 1048576) (w : World) :
    Calls Try.prog 30 #[.string s, .int .i64 d] w fun r w' => r = .returned (.int .i64 (60 + 2 * (1 + (unitsAt s 0 : Int)) + d)) ∧ Below w.heap.size w w' := by
  have hu := unitsAt_le s 0
  go_enter Try.func30, Try.ntmps30
  go_wp2
  go_loopw [5] (fun u wr => ∃ (pos acc : Nat), wr = w.iter s pos ∧ u = .int .i64 (1 + acc : Nat) ∧ acc + unitsAt s pos = unitsAt s 0 ∧ pos ≤ s.size) (fun _ wr => s.size - wr.iterPos w.heap.size)
  case atStart => exact ⟨0, 0, rfl, rfl, by omega, by omega⟩
  case round =>
    obtain ⟨pos, acc, rfl, rfl, hacc, hpos⟩ := hrel
    by_cases hp : pos < s.size
    · have hnx : ∀ ty, (Instr.next (.pointer (some ⟨w.heap.size, 0, none⟩)) true ty).run Try.prog (w.iter s pos) = _ := fun ty => run_next_any w s pos ty hp
      have st := step_dec s pos hp
      have hrec := unitsAt_rec s pos hp
      have hfit := seqLen_fits s pos hp
      have hb1 := unitsAt_le s (pos + (if seqLen s pos = 0 then 1 else seqLen s pos))
      have hw := st.width
      rw [← hw] at hrec hfit hb1
      have hw1 : 1 ≤ (Utf8.decode s pos).2 := by rw [hw]; split <;> omega
      have H : Hid (acc + unitsAt s pos = unitsAt s 0) := hacc
      clear hacc hw
      by_cases h4 : seqLen s pos = 4
      · have c4 := st.four.2 h4
        have ct := st.top
        rw [if_pos h4] at hrec
        clear st
        have HR : Hid (unitsAt s pos = 2 + unitsAt s (pos + (Utf8.decode s pos).2)) := hrec
        have hle : acc + 2 ≤ 1048576 := by have := H.out; omega
        clear hrec hb1 hu
        generalize hc : (Utf8.decode s pos).1 = c at *
        generalize hd' : (Utf8.decode s pos).2 = d2 at *
        clear hc hd'
        go_wp2_with (go_at_call 50; refine (runeLen_two c (by omega) (by omega) (by omega) _).mono ?_)
        rintro r w' ⟨rfl, rfl⟩
        go_wp2
        go_roundw
        case rel =>
          refine ⟨pos + d2, acc + 2, rfl, by go_num, ?_, by omega⟩
          have := H.out; have := HR.out; omega
        case measure => simp; omega
      · have c4 : ¬ 65536 ≤ (Utf8.decode s pos).1 := fun h => h4 (st.four.1 h)
        have cs := st.noSur
        rw [if_neg h4] at hrec
        clear st
        have HR : Hid (unitsAt s pos = 1 + unitsAt s (pos + (Utf8.decode s pos).2)) := hrec
        have hle : acc + 1 ≤ 1048576 := by have := H.out; omega
        clear hrec hb1 hu
        generalize hc : (Utf8.decode s pos).1 = c at *
        generalize hd' : (Utf8.decode s pos).2 = d2 at *
        clear hc hd'
        go_wp2_with (go_at_call 50; refine (runeLen_one c (by omega) (by omega) (by omega) _).mono ?_)
        rintro r w' ⟨rfl, rfl⟩
        go_wp2
        go_roundw
        case rel =>
          refine ⟨pos + d2, acc + 1, rfl, by go_num, ?_, by omega⟩
          have := H.out; have := HR.out; omega
        case measure => simp; omega
    · have hnx : ∀ ty, (Instr.next (.pointer (some ⟨w.heap.size, 0, none⟩)) true ty).run Try.prog (w.iter s pos) = _ := fun ty => run_next_end w s pos ty hp
      have he := unitsAt_end s pos hp
      have H : Hid (acc = unitsAt s 0) := by show acc = _; omega
      have hle : acc ≤ 1048576 := by omega
      clear hacc hu he
      go_wp2
      go_ret
      rw [← H.out]
      refine ⟨?_, ?_⟩
      · rfl
      · exact below_iter w s pos

end Go.Proofs.Qxb6002372a
