/-
  The decoder's reads: contracts.
-/
import Derived.Test.Qxb6002353aFmtErrf
set_option linter.all false
namespace Go.Proofs.Qxb6002353aFmt
open Go.RowKit Go.Extern.Stop Go.Stop Go.Extern

/-- The data: nil, or the n bytes at a block below bd. -/
def DataIn (w : World) (bd : Nat) (dv : Option Nat) (n : Nat) : Prop :=
  n ≤ 1048576 ∧ ∀ bD, dv = some bD → bD < bd ∧ ∀ j, j < n → ∃ z : Int, 0 ≤ z ∧ z ≤ 255 ∧ w.cell? ⟨bD, j, none⟩ = some (.int .u8 z)
/-- What is left: the data's last 'len' bytes. -/
def RestOf (dv : Option Nat) (n : Nat) (a : Option Addr) (len : Nat) : Prop :=
  match dv with
  | none => a = none ∧ len = 0 ∧ n = 0
  | some bD => ∃ o, a = some ⟨bD, o, none⟩ ∧ len ≤ n ∧ (0 < len → o + len = n)
theorem DataIn.below {w w' : World} {bd n : Nat} {dv : Option Nat} (h : DataIn w bd dv n) (hb : Below bd w w') : DataIn w' bd dv n := by
  refine ⟨h.1, fun bD e => ?_⟩
  obtain ⟨h1, h2⟩ := h.2 bD e
  refine ⟨h1, fun j hj => ?_⟩
  obtain ⟨z, a, b, c⟩ := h2 j hj
  exact ⟨z, a, b, (hb.cell (p := ⟨bD, j, none⟩) h1).trans c⟩
theorem RestOf.le {dv : Option Nat} {n len : Nat} {a : Option Addr} (h : RestOf dv n a len) : len ≤ n := by
  cases dv with
  | none => obtain ⟨_, h1, h2⟩ := h; omega
  | some b => obtain ⟨_, _, h, _⟩ := h; exact h
theorem RestOf.pos {dv : Option Nat} {n len : Nat} {a : Option Addr} (h : RestOf dv n a len) (hp : 0 < len) : ∃ bD o, dv = some bD ∧ a = some ⟨bD, o, none⟩ ∧ len ≤ n ∧ o + len = n := by
  cases dv with
  | none => obtain ⟨_, h1, h2⟩ := h; omega
  | some b => obtain ⟨o, h1, h2, h3⟩ := h; exact ⟨b, o, rfl, h1, h2, h3 hp⟩

/-- What a read leaves. -/
def OpPost (k : IntKind) (bd : Nat) (dv : Option Nat) (n : Nat) (a : Option Addr) (len : Nat) (e : Option Nat) (w : World) (r : Ending) (w' : World) : Prop :=
  ∃ (z : Int) (a' : Option Addr) (len' : Nat) (e' : Option Nat), r = .returned (.int k z) ∧ (e ≠ none → z = 0 ∧ a' = a ∧ len' = len ∧ e' = e) ∧ RestOf dv n a' len' ∧ len' ≤ len ∧ IsDec w' bd a' len' e' ∧ Below bd w w'

theorem byte_any {bd n len : Nat} {dv : Option Nat} {a : Option Addr} {e : Option Nat} {w : World} (h : IsDec w bd a len e) (hr : RestOf dv n a len) (hd : DataIn w bd dv n) :
    Calls Tryf.prog 12 #[.pointer (some ⟨bd, 0, none⟩)] w (OpPost .u8 bd dv n a len e w) := by
  obtain ⟨c0, c1⟩ := h.c
  have f0 := h.f 0
  cases e with
  | some k =>
    have FIN : Hid (IsDec w bd a len (some k) ∧ RestOf dv n a len) := ⟨h, hr⟩
    clear h hr hd
    simp only [errV] at c1
    go_enter Tryf.func12, Tryf.ntmps12
    go_wp2_with fail
    go_ret
    exact ⟨0, a, len, some k, rfl, fun _ => ⟨rfl, rfl, rfl, rfl⟩, FIN.out.2, Nat.le_refl _, FIN.out.1, Below.refl _ _⟩
  | none =>
    simp only [errV] at c1
    by_cases hl : len = 0
    · subst hl
      have lt := h.lt
      have H : Hid (IsDec w bd a 0 none ∧ RestOf dv n a 0) := ⟨h, hr⟩
      clear h hr hd
      go_enter Tryf.func12, Tryf.ntmps12
      go_wp2_with fail
      refine (new_any _ w).mono ?_
      rintro r w' ⟨k, rfl, hk, hb⟩
      have h2 := H.out.1.below hb lt
      go_wp2_with fail
      refine (fail_any (some k) h2).mono ?_
      rintro r w2 ⟨rfl, h3, hb3⟩
      go_wp2_with fail
      go_ret
      exact ⟨0, a, 0, _, rfl, fun h => absurd rfl h, H.out.2, Nat.le_refl _, h3, (hb.mono (Nat.le_of_lt lt)).trans hb3⟩
    · obtain ⟨bD, o, rfl, rfl, hln, ho⟩ := hr.pos (by omega)
      obtain ⟨hbd, hcells⟩ := hd.2 bD rfl
      have hmax := hd.1
      obtain ⟨z, z0, z1, hz⟩ := hcells o (by omega)
      obtain ⟨m, rfl⟩ : ∃ m, len = m + 1 := ⟨len - 1, by omega⟩
      have FIN : Hid (∀ o', IsDec (w.setCell ⟨bd, 0, none⟩ (.slice (some ⟨bD, o', none⟩) m m)) bd (some ⟨bD, o', none⟩) m none ∧ Below bd w (w.setCell ⟨bd, 0, none⟩ (.slice (some ⟨bD, o', none⟩) m m))) := fun o' => ⟨h.setRest _ _, (Below.refl _ _).setCell (p := ⟨bd, 0, none⟩) (Nat.le_refl bd) _⟩
      clear h hr hd hl hcells
      by_cases hm : m = 0
      · subst hm
        go_enter Tryf.func12, Tryf.ntmps12
        go_wp2_with fail
        go_ret
        exact ⟨_, _, 0, none, rfl, fun h => absurd rfl h, ⟨o, rfl, by omega, by omega⟩, by omega, (FIN.out o).1, (FIN.out o).2⟩
      · go_enter Tryf.func12, Tryf.ntmps12
        go_wp2_with fail
        go_ret
        exact ⟨_, _, m, none, rfl, fun h => absurd rfl h, ⟨o + 1, rfl, by omega, by omega⟩, by omega, (FIN.out (o + 1)).1, (FIN.out (o + 1)).2⟩

/-- encoding/binary.Uvarint: it reads alone; it tells of no more bytes than there are. -/
theorem uv_any {bd n len : Nat} {dv : Option Nat} {a : Option Addr} {w : World} (hr : RestOf dv n a len) (hd : DataIn w bd dv n) :
    Calls Tryf.prog 31 #[.slice a len len] w fun r w' => w' = w ∧ ∃ z m : Int, r = .returned (.tuple #[.int .u64 z, .int .i64 m]) ∧ m ≤ len ∧ -100 ≤ m := by
  have hmax := hd.1
  have hle := hr.le
  have hcell : ∀ k, k < len → ∃ z : Int, 0 ≤ z ∧ z ≤ 255 ∧ ∃ b o, a = some ⟨b, o, none⟩ ∧ w.cell? ⟨b, o + k, none⟩ = some (.int .u8 z) := by
    intro k hk
    obtain ⟨bD, o, rfl, rfl, hln, ho⟩ := hr.pos (by omega)
    obtain ⟨hbd, hcells⟩ := hd.2 bD rfl
    obtain ⟨z, z0, z1, hz⟩ := hcells (o + k) (by omega)
    exact ⟨z, z0, z1, bD, o, rfl, hz⟩
  clear hr hd
  go_enter Tryf.func31, Tryf.ntmps31
  go_wp2
  go_loop [4, 5, 10] (fun x sh i => ∃ (k : Nat) (X : Int), k ≤ len ∧ k ≤ 10 ∧ i = .int .i64 k ∧ sh = .int .u64 (7 * k : Nat) ∧ x = .int .u64 X) (fun _ _ i => len - (intOf i).toNat)
  case atStart => exact ⟨0, 0, by omega, by omega, rfl, rfl, rfl⟩
  case round =>
    obtain ⟨k, X, hk, hk10, rfl, rfl, rfl⟩ := hrel
    by_cases hlt : k < len
    · obtain ⟨z, z0, z1, b, o, rfl, hz⟩ := hcell k hlt
      clear hcell
      go_wp2
      · go_ret2
        exact ⟨rfl, _, _, rfl, by omega, by omega⟩
      · go_ret2
        exact ⟨rfl, _, _, rfl, by omega, by omega⟩
      · go_ret2
        exact ⟨rfl, _, _, rfl, by omega, by omega⟩
      · go_ret2
        exact ⟨rfl, _, _, rfl, by omega, by omega⟩
      · have h10 : ((k : Int) == 10) = false := by assumption
        have hk10' : k ≠ 10 := by have := WalkArith.int_ne h10; omega
        go_round
        case rel => exact ⟨k + 1, _, by omega, by omega, by go_num, by go_num, rfl⟩
        case measure => simp [intOf]; omega
    · clear hcell
      go_wp2
      go_ret2
      exact ⟨rfl, _, _, rfl, by omega, by omega⟩

set_option maxHeartbeats 1000000 in
theorem uvarint_any (F : Interp) {bd n len : Nat} {dv : Option Nat} {a : Option Addr} {e : Option Nat} {w : World} (hF : F.answers w.tape) (h : IsDec w bd a len e) (hr : RestOf dv n a len) (hd : DataIn w bd dv n) :
    Calls Tryf.prog 18 #[.pointer (some ⟨bd, 0, none⟩)] w (OpPost .u64 bd dv n a len e w) := by
  obtain ⟨c0, c1⟩ := h.c
  have f0 := h.f 0
  cases e with
  | some k =>
    have FIN : Hid (IsDec w bd a len (some k) ∧ RestOf dv n a len) := ⟨h, hr⟩
    clear h hr hd
    simp only [errV] at c1
    go_enter Tryf.func18, Tryf.ntmps18
    go_wp2_with fail
    go_ret
    exact ⟨0, a, len, some k, rfl, fun _ => ⟨rfl, rfl, rfl, rfl⟩, FIN.out.2, Nat.le_refl _, FIN.out.1, Below.refl _ _⟩
  | none =>
    simp only [errV] at c1
    have lt := h.lt
    have hmax := hd.1
    have hle := hr.le
    have FAIL : ∀ (k : Nat) (w' : World), Below w.heap.size w w' → Calls Tryf.prog 27 #[.pointer (some ⟨bd, 0, none⟩), .iface 51 (.pointer (some ⟨k, 0, none⟩))] w' fun r w2 => r = .returned (.tuple #[]) ∧ OpPost .u64 bd dv n a len none w (.returned (.int .u64 0)) w2 := by
      intro k w' hb
      refine (fail_any (some k) (h.below hb lt)).mono ?_
      rintro r w2 ⟨rfl, h3, hb3⟩
      exact ⟨rfl, 0, a, len, _, rfl, fun h => absurd rfl h, hr, Nat.le_refl _, h3, (hb.mono (Nat.le_of_lt lt)).trans hb3⟩
    have H : Hid (IsDec w bd a len none ∧ RestOf dv n a len ∧ DataIn w bd dv n ∧ F.answers w.tape) := ⟨h, hr, hd, hF⟩
    clear h hr hd hF
    go_enter Tryf.func18, Tryf.ntmps18
    go_wp2_with fail
    refine (uv_any H.out.2.1 H.out.2.2.1).mono ?_
    rintro r w' ⟨rfl, z, m, rfl, m1, m2⟩
    by_cases hm0 : m = 0
    · subst hm0
      go_wp2_with fail
      refine (new_any _ w').mono ?_
      rintro r w2 ⟨k, rfl, hk, hb⟩
      simp only [errV]
      go_wp2_with fail
      refine (FAIL k w2 hb).mono ?_
      rintro r w3 ⟨rfl, hp⟩
      go_wp2_with fail
      go_ret
      exact hp
    · by_cases hm1 : m < 0
      · go_wp2_with fail
        refine (new_any _ w').mono ?_
        rintro r w2 ⟨k, rfl, hk, hb⟩
        simp only [errV]
        go_wp2_with fail
        refine (FAIL k w2 hb).mono ?_
        rintro r w3 ⟨rfl, hp⟩
        go_wp2_with fail
        go_ret
        exact hp
      · obtain ⟨bD, o, rfl, rfl, hln, ho⟩ := H.out.2.1.pos (by omega)
        obtain ⟨hbd, hcells⟩ := H.out.2.2.1.2 bD rfl
        obtain ⟨j, rfl⟩ : ∃ j : Nat, m = j + 1 := ⟨(m - 1).toNat, by omega⟩
        obtain ⟨y, y0, y1, hy⟩ := hcells (o + j) (by omega)
        clear hcells
        have OK : Hid (∀ (len' o' : Nat), len' ≤ len → (0 < len' → o' + len' = n) → OpPost .u64 bd (some bD) n (some ⟨bD, o, none⟩) len none w' (.returned (.int .u64 z)) (w'.setCell ⟨bd, 0, none⟩ (.slice (some ⟨bD, o', none⟩) len' len'))) := by
          intro len' o' hl ho'
          exact ⟨z, _, len', none, rfl, fun h => absurd rfl h, ⟨o', rfl, by omega, ho'⟩, hl, H.out.1.setRest _ _, (Below.refl _ _).setCell (p := ⟨bd, 0, none⟩) (Nat.le_refl bd) _⟩
        have cellA : ∀ (o : Obj) (i : Nat) (row : Array Value) (t : TypeId), o = .cells row t (0, 0) → (w'.alloc o).cell? ⟨w'.heap.size, i, none⟩ = row[i]? := fun o i row t e => e ▸ cell_of_row _ w'.heap.size i row t (0, 0) (heap_alloc_new w' _)
        by_cases hlj : len = j + 1
        · by_cases hj : j = 0
          · subst hj
            go_wp2_with fail
            go_ret
            exact OK.out 0 o (by omega) (by omega)
          · by_cases hy0 : y = 0
            · subst hy0
              go_wp2_with fail
              refine (errorfB F z (j + 1) _ _ (by exact H.out.2.2.2) (cellA _ 0 _ _ rfl) (cellA _ 1 _ _ rfl)).mono ?_
              rintro r w2 ⟨k, rfl, hk, hb⟩
              simp only [errV]
              go_wp2_with fail
              refine (FAIL k w2 (((Below.refl _ _).alloc (Nat.le_refl _) _).trans (hb.mono (by simp)))).mono ?_
              rintro r w3 ⟨rfl, hp⟩
              go_wp2_with fail
              go_ret
              exact hp
            · go_wp2_with fail
              go_ret
              exact OK.out 0 o (by omega) (by omega)
        · by_cases hj : j = 0
          · subst hj
            go_wp2_with fail
            go_ret
            exact OK.out (len - 1) (o + 1) (by omega) (by omega)
          · by_cases hy0 : y = 0
            · subst hy0
              go_wp2_with fail
              refine (errorfB F z (j + 1) _ _ (by exact H.out.2.2.2) (cellA _ 0 _ _ rfl) (cellA _ 1 _ _ rfl)).mono ?_
              rintro r w2 ⟨k, rfl, hk, hb⟩
              simp only [errV]
              go_wp2_with fail
              refine (FAIL k w2 (((Below.refl _ _).alloc (Nat.le_refl _) _).trans (hb.mono (by simp)))).mono ?_
              rintro r w3 ⟨rfl, hp⟩
              go_wp2_with fail
              go_ret
              exact hp
            · go_wp2_with fail
              go_ret
              exact OK.out (len - (j + 1)) (o + (j + 1)) (by omega) (by omega)
end Go.Proofs.Qxb6002353aFmt
