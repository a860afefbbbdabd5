/-
  The tail, the bound on lengths, the start of the decoder.
-/
import Derived.Test.Qxb6002353aFmtReads
import Derived.Test.Qxb6002353aFmtMem
set_option linter.all false
namespace Go.Proofs.Qxb6002353aFmt
open Go.RowKit Go.Extern.Stop Go.Stop Go.Extern

theorem suffix_any {bd n len : Nat} {dv : Option Nat} {a : Option Addr} {w : World} (hr : RestOf dv n a len) (hd : DataIn w bd dv n) :
    Calls Tryf.prog 22 #[.slice a len len, datV dv n] w fun r w' => r = .returned (.bool true) ∧ ∃ q, w' = w.drewN q := by
  have hmax := hd.1
  have hle := hr.le
  cases dv with
  | none =>
    obtain ⟨rfl, rfl, rfl⟩ := hr
    simp only [datV]
    clear hd
    go_enter Tryf.func22, Tryf.ntmps22
    go_wp2_with fail
    refine (equal_same _ _ 0 _ _ w (by omega) (fun k hk => by omega)).mono ?_
    rintro r w' ⟨rfl, hq⟩
    go_wp2_with fail
    go_ret
    exact ⟨rfl, hq⟩
  | some bD =>
    obtain ⟨o, rfl, _, ho⟩ := hr
    obtain ⟨hbd, hcells⟩ := hd.2 bD rfl
    simp only [datV]
    clear hd
    by_cases hl : len = 0
    · subst hl
      clear ho hcells
      go_enter Tryf.func22, Tryf.ntmps22
      go_wp2_with fail
      all_goals
        refine (equal_same _ _ 0 _ _ w (by omega) (fun k hk => by omega)).mono ?_
        rintro r w' ⟨rfl, hq⟩
        go_wp2_with fail
        go_ret
        exact ⟨rfl, hq⟩
    · obtain rfl : n = o + len := by omega
      clear ho
      go_enter Tryf.func22, Tryf.ntmps22
      go_wp2_with fail
      refine (equal_same _ _ len _ _ w (by omega) (fun k hk => ?_)).mono ?_
      · obtain ⟨z, _, _, hz⟩ := hcells (o + k) (by omega)
        exact ⟨z, bD, o, rfl, rfl, hz⟩
      rintro r w' ⟨rfl, hq⟩
      clear hcells
      go_wp2_with fail
      go_ret
      exact ⟨rfl, hq⟩

theorem zzBytes_any (a0 : Option Addr) (l0 c0 : Nat) (a1 : Option Addr) (l1 c1 : Nat) (w : World) (h0 : l0 ≤ maxLen) (h1 : l1 ≤ maxLen) :
    Calls Tryf.prog 25 #[.slice a0 l0 c0, .slice a1 l1 c1] w fun e w' => ∃ b, e = .returned (.bool b) ∧ w' = w ∧ (b = true → l0 ≤ 1048576 ∧ l1 ≤ 1048576) := by
  unfold maxLen at h0 h1
  by_cases h : l0 ≤ 1048576 ∧ l1 ≤ 1048576
  · obtain ⟨ha, hb⟩ := h
    go_enter Tryf.func25, Tryf.ntmps25
    go_wp2
    all_goals
      go_ret
      exact ⟨_, rfl, rfl, fun _ => ⟨ha, hb⟩⟩
  · refine Calls.mono (R := fun e w' => e = .returned (.bool false) ∧ w' = w) ?_ ?_
    · by_cases ha : l0 ≤ 1048576
      · have hb : 1048576 < l1 := by omega
        clear h
        go_enter Tryf.func25, Tryf.ntmps25
        go_wp2
        all_goals
          go_ret
          exact ⟨rfl, rfl⟩
      · clear h
        go_enter Tryf.func25, Tryf.ntmps25
        go_wp2
        all_goals
          go_ret
          exact ⟨rfl, rfl⟩
    · rintro e w' ⟨rfl, rfl⟩
      exact ⟨_, rfl, rfl, fun h => by cases h⟩

theorem newDec_any (dv : Option Nat) (n : Nat) (w : World) :
    Calls Tryf.prog 10 #[datV dv n] w fun r w' => r = .returned (.pointer (some ⟨w.heap.size, 0, none⟩)) ∧ w' = w.alloc (.cells #[datV dv n, .nilIface] 45) := by
  cases dv <;>
  · simp only [datV]
    go_enter Tryf.func10, Tryf.ntmps10
    go_wp2_with fail
    go_ret
    exact ⟨rfl, rfl⟩
end Go.Proofs.Qxb6002353aFmt
