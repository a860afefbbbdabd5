/-
  zzSeqLen: a part of its walk.
-/
import Derived.Test.Qxb6002372aRec
set_option linter.all false
namespace Go.Proofs.Qxb6002372a
open Go.RowKit

set_option maxRecDepth 100000 in
set_option maxHeartbeats 4000000 in
theorem seqLen4b (s : ByteArray) (i : Nat) (hi : i < s.size) (e244 : by' s i = 244) (hs : s.size ≤ 1048576) (w : World) :
    Calls Try.prog 29 #[.string s, .int .i64 (i : Int)] w fun r w' => r = .returned (.int .i64 (seqLen s i : Int)) ∧ w' = w := by
  have hb : ∀ (k : Nat) (h : k < s.size), (s[k]'h).toNat = by' s k := fun k h => by show (s.data[k]'h).toNat = (s.data[k]!).toNat; rw [getElem!_pos s.data k h]
  rw [sl4n (by omega) (by omega) 128 143 (if_neg (by omega)) (if_pos e244)]
  by_cases k0 : i + 4 ≤ s.size
  · by_cases k1 : 128 ≤ by' s (i + 1)
    · by_cases k2 : by' s (i + 1) ≤ 143
      · by_cases k3 : 128 ≤ by' s (i + 2)
        · by_cases k4 : by' s (i + 2) ≤ 191
          · by_cases k5 : 128 ≤ by' s (i + 3)
            · by_cases k6 : by' s (i + 3) ≤ 191
              · rw [if_pos ⟨k0, k1, k2, k3, k4, k5, k6⟩]
                go_enter Try.func29, Try.ntmps29
                go_wp2
                all_goals
                  go_ret
                  exact ⟨rfl, rfl⟩
              · rw [if_neg (by omega)]
                have k' : 191 < by' s (i + 3) := by omega
                clear k6
                go_enter Try.func29, Try.ntmps29
                go_wp2
                all_goals
                  go_ret
                  exact ⟨rfl, rfl⟩
            · rw [if_neg (by omega)]
              have k' : by' s (i + 3) < 128 := by omega
              clear k5
              go_enter Try.func29, Try.ntmps29
              go_wp2
              all_goals
                go_ret
                exact ⟨rfl, rfl⟩
          · rw [if_neg (by omega)]
            have k' : 191 < by' s (i + 2) := by omega
            clear k4
            go_enter Try.func29, Try.ntmps29
            go_wp2
            all_goals
              go_ret
              exact ⟨rfl, rfl⟩
        · rw [if_neg (by omega)]
          have k' : by' s (i + 2) < 128 := by omega
          clear k3
          go_enter Try.func29, Try.ntmps29
          go_wp2
          all_goals
            go_ret
            exact ⟨rfl, rfl⟩
      · rw [if_neg (by omega)]
        have k' : 143 < by' s (i + 1) := by omega
        clear k2
        go_enter Try.func29, Try.ntmps29
        go_wp2
        all_goals
          go_ret
          exact ⟨rfl, rfl⟩
    · rw [if_neg (by omega)]
      have k' : by' s (i + 1) < 128 := by omega
      clear k1
      go_enter Try.func29, Try.ntmps29
      go_wp2
      all_goals
        go_ret
        exact ⟨rfl, rfl⟩
  · rw [if_neg (by omega)]
    have k' : s.size < i + 4 := by omega
    clear k0
    go_enter Try.func29, Try.ntmps29
    go_wp2
    all_goals
      go_ret
      exact ⟨rfl, rfl⟩
end Go.Proofs.Qxb6002372a
