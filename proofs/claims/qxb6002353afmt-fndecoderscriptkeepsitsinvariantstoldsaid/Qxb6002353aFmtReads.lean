/-
  The decoder's other reads, and its end: contracts.
-/
import Derived.Test.Qxb6002353aFmtOps
set_option linter.all false
namespace Go.Proofs.Qxb6002353aFmt
open Go.RowKit Go.Extern.Stop Go.Stop Go.Extern

set_option maxHeartbeats 1000000 in
theorem positive_any (F : Interp) {bd n len : Nat} {dv : Option Nat} {a : Option Addr} {e : Option Nat} {w : World} (hF : F.answers w.tape) (h : IsDec w bd a len e) (hr : RestOf dv n a len) (hd : DataIn w bd dv n) :
    Calls Tryf.prog 26 #[.pointer (some ⟨bd, 0, none⟩)] w (OpPost .u64 bd dv n a len e w) := by
  go_enter Tryf.func26, Tryf.ntmps26
  go_wp2_with fail
  refine (uvarint_any F hF h hr hd).mono ?_
  rintro r w' ⟨z, a', len', e', rfl, hz, hr', hl', h', hb'⟩
  have lt := h'.lt
  have H : Hid ((e ≠ none → z = 0 ∧ a' = a ∧ len' = len ∧ e' = e) ∧ RestOf dv n a' len' ∧ len' ≤ len ∧ IsDec w' bd a' len' e' ∧ Below bd w w') := ⟨hz, hr', hl', h', hb'⟩
  clear h hr hd hz hr' hl' h' hb' hF
  by_cases hz : z = 0
  · subst hz
    go_wp2_with fail
    refine (new_any _ w').mono ?_
    rintro r w2 ⟨k, rfl, hk, hb⟩
    go_wp2_with fail
    refine (fail_any (some k) (H.out.2.2.2.1.below hb lt)).mono ?_
    rintro r w3 ⟨rfl, h3, hb3⟩
    go_wp2_with fail
    go_ret
    refine ⟨0, a', len', _, rfl, fun he => ?_, H.out.2.1, H.out.2.2.1, h3, H.out.2.2.2.2.trans ((hb.mono (Nat.le_of_lt lt)).trans hb3)⟩
    obtain ⟨_, h1, h2, h3⟩ := H.out.1 he
    exact ⟨rfl, h1, h2, by rw [h3, if_neg he]⟩
  · go_wp2_with fail
    go_ret
    exact ⟨z, a', len', e', rfl, H.out.1, H.out.2.1, H.out.2.2.1, H.out.2.2.2.1, H.out.2.2.2.2⟩

set_option maxHeartbeats 1000000 in
theorem count_any (F : Interp) {bd n len : Nat} {dv : Option Nat} {a : Option Addr} {e : Option Nat} {w : World} (hF : F.answers w.tape) (h : IsDec w bd a len e) (hr : RestOf dv n a len) (hd : DataIn w bd dv n) :
    Calls Tryf.prog 24 #[.pointer (some ⟨bd, 0, none⟩)] w (OpPost .i64 bd dv n a len e w) := by
  have hmax := hd.1
  go_enter Tryf.func24, Tryf.ntmps24
  go_wp2_with fail
  refine (uvarint_any F hF h hr hd).mono ?_
  rintro r w' ⟨z, a', len', e', rfl, hz, hr', hl', h', hb'⟩
  have lt := h'.lt
  have hle := hr'.le
  obtain ⟨c0, c1⟩ := h'.c
  have hF' : F.answers w'.tape := by rw [hb'.tape]; exact hF
  have H : Hid ((e ≠ none → z = 0 ∧ a' = a ∧ len' = len ∧ e' = e) ∧ RestOf dv n a' len' ∧ len' ≤ len ∧ IsDec w' bd a' len' e' ∧ Below bd w w' ∧ F.answers w'.tape) := ⟨hz, hr', hl', h', hb', hF'⟩
  clear h hr hd hz hr' hl' h' hb' hF hF' c1
  by_cases hz : (len' : Int) < z
  · have cellA : ∀ (o : Obj) (i : Nat) (row : Array Value) (t : TypeId), o = .cells row t (0, 0) → (w'.alloc o).cell? ⟨w'.heap.size, i, none⟩ = row[i]? := fun o i row t e => e ▸ cell_of_row _ w'.heap.size i row t (0, 0) (heap_alloc_new w' _)
    go_wp2_with fail
    refine (errorfC F z len' _ _ (by exact H.out.2.2.2.2.2) (cellA _ 0 _ _ rfl) (cellA _ 1 _ _ rfl)).mono ?_
    rintro r w2 ⟨k, rfl, hk, hb⟩
    have hb2 : Below w'.heap.size w' w2 := ((Below.refl _ _).alloc (Nat.le_refl _) _).trans (hb.mono (by simp))
    go_wp2_with fail
    refine (fail_any (some k) (H.out.2.2.2.1.below hb2 lt)).mono ?_
    rintro r w3 ⟨rfl, h3, hb3⟩
    go_wp2_with fail
    go_ret
    refine ⟨0, a', len', _, rfl, fun he => ?_, H.out.2.1, H.out.2.2.1, h3, H.out.2.2.2.2.1.trans ((hb2.mono (Nat.le_of_lt lt)).trans hb3)⟩
    obtain ⟨h0, h1, h2, h3⟩ := H.out.1 he
    exact ⟨rfl, h1, h2, by rw [h3, if_neg he]⟩
  · go_wp2_with fail
    go_ret
    refine ⟨_, a', len', e', rfl, fun he => ?_, H.out.2.1, H.out.2.2.1, H.out.2.2.2.1, H.out.2.2.2.2.1⟩
    obtain ⟨h0, h1, h2, h3⟩ := H.out.1 he
    subst h0
    exact ⟨by decide +kernel, h1, h2, h3⟩

set_option maxHeartbeats 1000000 in
theorem end_any (F : Interp) {bd n len : Nat} {dv : Option Nat} {a : Option Addr} {e : Option Nat} {w : World} (hF : F.answers w.tape) (h : IsDec w bd a len e) (hr : RestOf dv n a len) (hd : DataIn w bd dv n) :
    Calls Tryf.prog 14 #[.pointer (some ⟨bd, 0, none⟩)] w fun r w' => ∃ e', r = .returned (errV e') ∧ (e' = none ↔ e = none ∧ len = 0) ∧ IsDec w' bd a len e' ∧ Below bd w w' := by
  obtain ⟨c0, c1⟩ := h.c
  have lt := h.lt
  have hmax := hd.1
  have hle := hr.le
  have H : Hid (IsDec w bd a len e ∧ F.answers w.tape) := ⟨h, hF⟩
  clear h hr hd hF
  cases e with
  | some k =>
    simp only [errV] at c1
    go_enter Tryf.func14, Tryf.ntmps14
    go_wp2_with fail
    go_ret
    exact ⟨some k, rfl, by simp, H.out.1, Below.refl _ _⟩
  | none =>
    simp only [errV] at c1
    by_cases hl : len = 0
    · subst hl
      go_enter Tryf.func14, Tryf.ntmps14
      go_wp2_with fail
      go_ret
      exact ⟨none, rfl, by simp, H.out.1, Below.refl _ _⟩
    · have cellA : ∀ (o : Obj) (i : Nat) (row : Array Value) (t : TypeId), o = .cells row t (0, 0) → (w.alloc o).cell? ⟨w.heap.size, i, none⟩ = row[i]? := fun o i row t e => e ▸ cell_of_row _ w.heap.size i row t (0, 0) (heap_alloc_new w _)
      have hl' : 0 < len := by omega
      go_enter Tryf.func14, Tryf.ntmps14
      go_wp2_with fail
      refine (errorfA F len _ _ (by exact H.out.2) (cellA _ 0 _ _ rfl)).mono ?_
      rintro r w2 ⟨k, rfl, hk, hb⟩
      have hb2 : Below w.heap.size w w2 := ((Below.refl _ _).alloc (Nat.le_refl _) _).trans (hb.mono (by simp))
      go_wp2_with fail
      refine (fail_any (some k) (H.out.1.below hb2 lt)).mono ?_
      rintro r w3 ⟨rfl, h3, hb3⟩
      obtain ⟨d0, d1⟩ := h3.c
      simp only [if_true, errV] at d1
      have FIN : Hid (IsDec w3 bd a len (some k) ∧ Below bd w w3) := ⟨h3, (hb2.mono (Nat.le_of_lt lt)).trans hb3⟩
      clear h3 hb3 hb2 hb
      go_wp2_with fail
      go_ret
      exact ⟨some k, rfl, by simp; omega, FIN.out.1, FIN.out.2⟩
end Go.Proofs.Qxb6002353aFmt
