/-
  SyncDir: the deferred Close, the function whole.
-/
import Derived.Test.Qxb6002347aSteps
set_option linter.all false
namespace Go.Proofs.Qxb6002347a
open Go.RowKit

set_option maxRecDepth 100000 in
set_option maxHeartbeats 1000000 in
theorem close_d (b H : Nat) (fa ops opn : Int) (ren dsa : Bool) (ds : Int) (last name : ByteArray) (u : FrameMode) (w : World) (B : Nat) (hB : B ≤ b) (hBH : B ≤ H) (h : IsFs w b fa ops opn ren dsa ds last) (hh : IsH w H b name false) (h0 : 0 ≤ ops) (h1 : ops ≤ 100) (o0 : 0 ≤ opn) (o1 : opn ≤ 100) :
    CallsD Try.prog 50 #[.pointer (some ⟨H, 0, none⟩)] u w fun e u' w' => u' = u ∧ ((∃ v, e = .returned v) ∧ IsFs w' b fa (ops + 1) (opn - 1) ren dsa ds last ∧ Below B w w') := by
  obtain ⟨d0, d1, d3, d5⟩ := hh.c
  have f5 := hh.f 5
  have hne : H ≠ b := by
    intro e; subst e
    have := (show w.heap[H]? = _ from h).symm.trans hh
    simp [fsObj, hObj] at this
  go_enter_d Try.func50, Try.ntmps50
  go_upto_region 3 with fail
  have hh2 := hh.setClosed true
  have h2 := h.keep (Below.heap_setCell w ⟨H, 5, none⟩ (.bool true) _ (Ne.symm hne))
  have hb2 := (Below.refl B w).setCell (p := ⟨H, 5, none⟩) hBH (.bool true)
  clear h hh d0 d1 d3 d5 f5
  generalize w.setCell ⟨H, 5, none⟩ (.bool true) = w2 at h2 hh2 hb2 ⊢
  obtain ⟨d0, d1, d3, d5⟩ := hh2.c
  obtain ⟨_, _, c3, _⟩ := h2.c
  have f3 := h2.f 3
  go_upto_region 4 with fail
  have h3 := h2.setOpen (opn - 1)
  have hh3 := hh2.keep (Below.heap_setCell w2 ⟨b, 3, none⟩ (.int .i64 (opn - 1)) _ hne)
  have hb3 := hb2.setCell (p := ⟨b, 3, none⟩) hB (.int .i64 (opn - 1))
  clear h2 hh2 hb2 d0 d1 d3 d5 c3 f3
  generalize w2.setCell ⟨b, 3, none⟩ (.int .i64 (opn - 1)) = w3 at h3 hh3 hb3 ⊢
  obtain ⟨d0, d1, d3, d5⟩ := hh3.c
  go_wp2_with fail
  refine (step_any b fa ops (opn - 1) ren dsa ds last w3 h3 h0 h1).mono ?_
  rintro e w' ⟨rfl, q, rfl⟩
  have FIN : Hid (IsFs ((w3.setCell ⟨b, 2, none⟩ (.int .i64 (ops + 1))).drewN q) b fa (ops + 1) (opn - 1) ren dsa ds last ∧ Below B w ((w3.setCell ⟨b, 2, none⟩ (.int .i64 (ops + 1))).drewN q)) := ⟨h3.setOps _, (hb3.setCell hB _).trans (below_draws' _ _ _)⟩
  clear h3 hh3 hb3 d0 d1 d3 d5
  generalize (w3.setCell ⟨b, 2, none⟩ (.int .i64 (ops + 1))).drewN q = w4 at FIN ⊢
  generalize (ops + 1 == fa) = tb
  cases tb with
  | true =>
    go_wp2_with fail
    go_ret
    exact ⟨⟨_, rfl⟩, FIN.out⟩
  | false =>
    go_wp2_with fail
    go_ret
    exact ⟨⟨_, rfl⟩, FIN.out⟩

theorem m_open (a : Addr) (w : World) : (method 209 25 (.pointer (some a)) "Open").run Try.prog w = .ok (42, .pointer (some a)) w := by kernel_rfl
theorem m_sync (a : Addr) (w : World) : (method 209 82 (.pointer (some a)) "Sync").run Try.prog w = .ok (54, .pointer (some a)) w := by kernel_rfl
theorem m_close (a : Addr) (w : World) : (method 209 82 (.pointer (some a)) "Close").run Try.prog w = .ok (50, .pointer (some a)) w := by kernel_rfl

/-- The first step fails: nothing is opened. -/
theorem syncdir_one (b : Nat) (fa : Int) (dir : ByteArray) (w : World) (B : Nat) (hB : B ≤ b) (h : IsFs w b fa 0 0 false false 0 ByteArray.empty) (hf : ((0 : Int) + 1 == fa) = true) :
    Calls Try.prog 12 #[.iface 25 (.pointer (some ⟨b, 0, none⟩)), .string dir] w fun e w' => e = .returned (.iface 81 (.agg #[])) ∧ IsFs w' b fa (0 + 1) 0 false false 0 ByteArray.empty ∧ Below B w w' := by
  have mo := m_open ⟨b, 0, none⟩
  go_enter_defers Try.func12, Try.ntmps12
  go_wp2_with fail
  refine (open_fail b fa 0 0 false false 0 ByteArray.empty dir w B hB h (by omega) (by omega) hf).mono ?_
  rintro e w' ⟨rfl, h2, hb2⟩
  have FIN : Hid (IsFs w' b fa (0 + 1) 0 false false 0 ByteArray.empty ∧ Below B w w') := ⟨h2, hb2⟩
  clear h2 hb2 h hf mo
  go_wp2_with fail
  exact ⟨_, results_tmp rfl _ _ _, rfl, FIN.out⟩

/-- The second step fails: the handle is closed behind it. -/
theorem syncdir_two (b : Nat) (fa : Int) (dir : ByteArray) (w : World) (B : Nat) (hB : B ≤ b) (hBw : B ≤ w.heap.size) (h : IsFs w b fa 0 0 false false 0 ByteArray.empty) (hf : ((0 : Int) + 1 == fa) = false) (hf2 : ((0 : Int) + 1 + 1 == fa) = true) :
    Calls Try.prog 12 #[.iface 25 (.pointer (some ⟨b, 0, none⟩)), .string dir] w fun e w' => e = .returned (.iface 81 (.agg #[])) ∧ IsFs w' b fa (0 + 1 + 1 + 1) (0 + 1 - 1) false false 0 ByteArray.empty ∧ Below B w w' := by
  have mo := m_open ⟨b, 0, none⟩
  go_enter_defers Try.func12, Try.ntmps12
  go_wp2_with fail
  refine (open_ok b fa 0 0 false false 0 ByteArray.empty dir w B hB h (by omega) (by omega) (by omega) (by omega) hf).mono ?_
  rintro e w' ⟨H, rfl, hH, hh, h2, hb2⟩
  have ms := m_sync ⟨H, 0, none⟩
  have mc := m_close ⟨H, 0, none⟩
  clear h hf mo
  go_wp2_with fail
  refine (sync_fail b H fa (0 + 1) (0 + 1) false false 0 ByteArray.empty dir w' B hB h2 hh (by omega) (by omega) hf2).mono ?_
  rintro e w2 ⟨rfl, hh3, h3, hb3⟩
  have hBH : B ≤ H := by omega
  have hb4 : Below B w w2 := hb2.trans hb3
  clear hh h2 hb2 hb3 ms
  go_wp2_with fail
  refine leaves_cons (f := 50) (args := #[.pointer (some ⟨H, 0, none⟩)]) (by simp) (by simp [go_sem, invoke, mc]) ?_
  refine (close_d b H fa (0 + 1 + 1) (0 + 1) false false 0 ByteArray.empty dir .returning w2 B hB hBH h3 hh3 (by omega) (by omega) (by omega) (by omega)).mono ?_
  rintro e u' w3 ⟨rfl, ⟨v, rfl⟩, h5, hb5⟩
  exact ⟨_, results_tmp rfl _ _ _, rfl, h5, hb4.trans hb5⟩

/-- No step that counts fails. -/
theorem syncdir_ok (b : Nat) (fa : Int) (dir : ByteArray) (w : World) (B : Nat) (hB : B ≤ b) (hBw : B ≤ w.heap.size) (h : IsFs w b fa 0 0 false false 0 ByteArray.empty) (hf : ((0 : Int) + 1 == fa) = false) (hf2 : ((0 : Int) + 1 + 1 == fa) = false) :
    Calls Try.prog 12 #[.iface 25 (.pointer (some ⟨b, 0, none⟩)), .string dir] w fun e w' => e = .returned .nilIface ∧ IsFs w' b fa (0 + 1 + 1 + 1) (0 + 1 - 1) false false (0 + 1) dir ∧ Below B w w' := by
  have mo := m_open ⟨b, 0, none⟩
  go_enter_defers Try.func12, Try.ntmps12
  go_wp2_with fail
  refine (open_ok b fa 0 0 false false 0 ByteArray.empty dir w B hB h (by omega) (by omega) (by omega) (by omega) hf).mono ?_
  rintro e w' ⟨H, rfl, hH, hh, h2, hb2⟩
  have ms := m_sync ⟨H, 0, none⟩
  have mc := m_close ⟨H, 0, none⟩
  clear h hf mo
  go_wp2_with fail
  refine (sync_ok b H fa (0 + 1) (0 + 1) false 0 ByteArray.empty dir w' B hB h2 hh (by omega) (by omega) (by omega) (by omega) hf2).mono ?_
  rintro e w2 ⟨rfl, hh3, h3, hb3⟩
  have hBH : B ≤ H := by omega
  have hb4 : Below B w w2 := hb2.trans hb3
  clear hh h2 hb2 hb3 ms
  go_wp2_with fail
  refine leaves_cons (f := 50) (args := #[.pointer (some ⟨H, 0, none⟩)]) (by simp) (by simp [go_sem, invoke, mc]) ?_
  refine (close_d b H fa (0 + 1 + 1) (0 + 1) false false (0 + 1) dir dir .returning w2 B hB hBH h3 hh3 (by omega) (by omega) (by omega) (by omega)).mono ?_
  rintro e u' w3 ⟨rfl, ⟨v, rfl⟩, h5, hb5⟩
  exact ⟨_, results_tmp rfl _ _ _, rfl, h5, hb4.trans hb5⟩
end Go.Proofs.Qxb6002347a
