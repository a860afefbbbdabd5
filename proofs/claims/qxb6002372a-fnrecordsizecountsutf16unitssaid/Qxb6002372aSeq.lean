/-
  zzSeqLen: its contract.
-/
import Derived.Test.Qxb6002372aSeq3a
import Derived.Test.Qxb6002372aSeq3b
import Derived.Test.Qxb6002372aSeq3c
import Derived.Test.Qxb6002372aSeq4a
import Derived.Test.Qxb6002372aSeq4b
import Derived.Test.Qxb6002372aSeq4c
set_option linter.all false
namespace Go.Proofs.Qxb6002372a
open Go.RowKit

set_option maxRecDepth 100000 in
set_option maxHeartbeats 4000000 in
theorem seqLen_any (s : ByteArray) (i : Nat) (hi : i < s.size) (hs : s.size ≤ 1048576) (w : World) :
    Calls Try.prog 29 #[.string s, .int .i64 (i : Int)] w fun r w' => r = .returned (.int .i64 (seqLen s i : Int)) ∧ w' = w := by
  have hb : ∀ (k : Nat) (h : k < s.size), (s[k]'h).toNat = by' s k := fun k h => by show (s.data[k]'h).toNat = (s.data[k]!).toNat; rw [getElem!_pos s.data k h]
  by_cases c0 : by' s i < 128
  · rw [sl1 c0]
    go_enter Try.func29, Try.ntmps29
    go_wp2
    go_ret
    exact ⟨rfl, rfl⟩
  by_cases c1 : by' s i < 194
  · rw [sl0 (by omega) (by omega)]
    go_enter Try.func29, Try.ntmps29
    go_wp2
    go_ret
    exact ⟨rfl, rfl⟩
  by_cases c2 : by' s i < 224
  · rw [sl2 (by omega) (by omega)]
    by_cases n2 : i + 2 ≤ s.size
    · by_cases k : 128 ≤ by' s (i + 1) ∧ by' s (i + 1) ≤ 191
      · rw [if_pos ⟨n2, k⟩]
        obtain ⟨k1, k2⟩ := k
        go_enter Try.func29, Try.ntmps29
        go_wp2
        all_goals
          go_ret
          exact ⟨rfl, rfl⟩
      · rw [if_neg (by omega)]
        have k' : by' s (i + 1) < 128 ∨ 191 < by' s (i + 1) := by omega
        clear k
        rcases k' with k' | k'
        · go_enter Try.func29, Try.ntmps29
          go_wp2
          all_goals
            go_ret
            exact ⟨rfl, rfl⟩
        · have k2 : 128 ≤ by' s (i + 1) := by omega
          go_enter Try.func29, Try.ntmps29
          go_wp2
          all_goals
            go_ret
            exact ⟨rfl, rfl⟩
    · rw [if_neg (by omega)]
      go_enter Try.func29, Try.ntmps29
      go_wp2
      all_goals
        go_ret
        exact ⟨rfl, rfl⟩
  by_cases c3 : by' s i < 240
  · by_cases e224 : by' s i = 224
    · exact seqLen3a s i hi e224 hs w
    by_cases e237 : by' s i = 237
    · exact seqLen3b s i hi e237 hs w
    · exact seqLen3c s i hi (by omega) (by omega) e224 e237 hs w
  by_cases c4 : by' s i ≤ 244
  · by_cases e240 : by' s i = 240
    · exact seqLen4a s i hi e240 hs w
    by_cases e244 : by' s i = 244
    · exact seqLen4b s i hi e244 hs w
    · exact seqLen4c s i hi (by omega) (by omega) e240 e244 hs w
  rw [sl0 (by omega) (by omega)]
  go_enter Try.func29, Try.ntmps29
  go_wp2
  all_goals
    go_ret
    exact ⟨rfl, rfl⟩
end Go.Proofs.Qxb6002372a
