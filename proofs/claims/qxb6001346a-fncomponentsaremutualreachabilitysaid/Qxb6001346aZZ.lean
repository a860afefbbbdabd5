/-
  ZZComponents over whatever graph fits.
-/
import Derived.Test.Qxb6001346aComp
import Derived.Test.Qxb6001346aPost
set_option linter.all false
namespace Go.Proofs.Qxb6001346a
open Go.RowKit Tj

set_option maxRecDepth 100000 in
set_option maxHeartbeats 1000000 in
theorem zzc_core {w : World} {n m bs os c0 : Nat} {a1 : Option Addr} {c1 : Nat} {a2 : Option Addr} {c2 : Nat} {g : Gr} {f2 : Nat → Int} {mask : Int}
    (G : GW (w.alloc (.cells #[.slice (some ⟨bs, os, none⟩) (n + 1) c0, .slice a1 m c1, .slice a2 m c2] 60)) w.heap.size n m bs os c0 a1 c1 a2 c2 g f2 mask) :
    Calls Try.prog 16 #[.slice (some ⟨bs, os, none⟩) (n + 1) c0, .slice a1 m c1, .slice a2 m c2, .int .u8 mask] w (CompPost g n w) := by
  go_enter Try.func16, Try.ntmps16
  go_wp2_with (go_at_call 37; refine (components_any G).mono ?_)
  rintro e w' ⟨gM, vZ, comp, size, rfl, hb, hr, ho, hres⟩
  have FIN : Hid (Below w.heap.size w w' ∧ Row w' gM 21 n (fun i => .int .i32 ((comp i : Nat) : Int)) ∧ w'.ownsRow w.heap.size 21 1 vZ size.length (ints size) ∧ Res g comp size) :=
    ⟨((Below.refl _ _).alloc (Nat.le_refl _) _).trans (hb.mono (by simp)), hr, owns_base ho (by simp), hres⟩
  clear hb hr ho hres
  go_wp2_with fail
  go_ret2
  exact ⟨_, _, comp, size, rfl, FIN.out⟩

theorem zzc_any {w : World} {l0 l1 : Nat} {a0 : Option Addr} {c0 : Nat} {a1 : Option Addr} {c1 : Nat} {a2 : Option Addr} {c2 : Nat} {f0 f1 f2 : Nat → Int} {mask : Int} (F : Fits l0 l1 l1 f0 f1)
    (s0 : SIn w .i32 a0 l0 f0) (s1 : SIn w .i32 a1 l1 f1) (s2 : SIn w .u8 a2 l1 f2) :
    Calls Try.prog 16 #[.slice a0 l0 c0, .slice a1 l1 c1, .slice a2 l1 c2, .int .u8 mask] w (CompPost (mkG l0 f0 f1 f2 mask) (l0 - 1) w) := by
  have hl := F.len0
  obtain ⟨n, rfl⟩ : ∃ n, l0 = n + 1 := ⟨l0 - 1, by omega⟩
  obtain ⟨bs, os, rfl, hbs, hc0⟩ := s0 (by omega)
  have hb : Below w.heap.size w (w.alloc (.cells #[.slice (some ⟨bs, os, none⟩) (n + 1) c0, .slice a1 l1 c1, .slice a2 l1 c2] 60)) := (Below.refl _ _).alloc (Nat.le_refl _) _
  have t1 := s1.below hb
  have t2 := s2.below hb
  refine zzc_core (m := l1) (f2 := f2) { n_eq := rfl, n_le := by omega, m_le := F.len1, wf := F.wf f2 mask, gg_lt := by simp, bs_lt := by simp; omega, c0 := ?_, c1 := ?_, c2 := ?_, start := ?_, tgts := ?_, kinds := t2, ok := fun e he => rfl }
  · exact (cell_of_row _ w.heap.size 0 _ 60 (0, 0) (heap_alloc_new w _)).trans rfl
  · exact (cell_of_row _ w.heap.size 1 _ 60 (0, 0) (heap_alloc_new w _)).trans rfl
  · exact (cell_of_row _ w.heap.size 2 _ 60 (0, 0) (heap_alloc_new w _)).trans rfl
  · intro i hi
    rw [hb.cell (p := ⟨bs, os + i, none⟩) hbs, hc0 i hi]
    simp only [mkG]
    rw [← F.st_eq hi]
  · intro hl1
    obtain ⟨b, o, e1, e2, e3⟩ := t1 hl1
    refine ⟨b, o, e1, e2, fun e he => ?_⟩
    rw [e3 e he]
    simp only [mkG]
    rw [← F.to_eq he]

theorem zz_said : ZZSaid := fun _ _ _ _ _ _ _ _ _ _ _ _ _ F s0 s1 s2 => zzc_any F s0 s1 s2
end Go.Proofs.Qxb6001346a
