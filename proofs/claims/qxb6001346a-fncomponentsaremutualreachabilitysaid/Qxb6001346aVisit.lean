/-
  THE CLOSURE 'visit' OF components.
-/
import Derived.Test.Qxb6001346aSmall
import Derived.Test.Qxb6001346aRep
import Derived.Deep.RegionLaw
import Derived.Deep.DrawnRows
import Derived.Deep.Cut
set_option linter.all false
namespace Go.Proofs.Qxb6001346a
open Go.RowKit Tj
attribute [local go_sem ↓] Go.wp_at_zero Go.wp_at_succ

theorem Try.info90 : (Try.prog.info? 90).map (fun i => (i.zero, i.size, i.bytes)) = some (some (.agg #[.int .i32 0, .int .i32 0]), 2, 8) := by kernel_rfl

set_option maxRecDepth 100000 in
set_option maxHeartbeats 1000000 in
theorem visit_any (E : Ev) (w0 w : World) (s : St) (vS vK vZ : Value) (h : Rep E w0 w s vS vK vZ) (v : Nat) (hv : v < E.n) (hn : E.n ≤ 4096) (hc : s.count < 4096) (hls : s.stk.length ≤ 4096) (hlk : s.calls.length ≤ 4096)
    (bs os cs : Nat) (x : Nat) (hgg : E.gg < w0.heap.size) (hbs : bs < w0.heap.size) (c0 : w0.cell? ⟨E.gg, 0, none⟩ = some (.slice (some ⟨bs, os, none⟩) (E.n + 1) cs)) (c1 : w0.cell? ⟨bs, os + v, none⟩ = some (.int .i32 (x : Int))) (hx : s.nxt v = x) :
    Calls Try.prog 43 #[.int .i32 (v : Int), .pointer (some ⟨E.bN, 0, none⟩), .pointer (some ⟨E.bI, 0, none⟩), .pointer (some ⟨E.bL, 0, none⟩), .pointer (some ⟨E.bS, 0, none⟩), .pointer (some ⟨E.bO, 0, none⟩), .pointer (some ⟨E.bC, 0, none⟩), .pointer (some ⟨E.bG, 0, none⟩)] w
      fun e w' => e = .returned (.tuple #[]) ∧ ∃ vS' vK', Rep E w0 w' (Tj.visit s v) vS' vK' vZ := by
  have HX : Hid (s.nxt v = x) := hx
  clear hx
  have q1 : (0 : Int) ≤ (v : Int) := by omega
  have q2 : (v : Int) < (E.n : Int) := by omega
  have cN := h.boxN.cell
  have fN := h.boxN.free
  go_enter Try.func43, Try.ntmps43
  go_wp2
  have h1 := h.setCount (s.count + 1)
  rw [show (((s.count + 1 : Nat)) : Int) = (s.count : Int) + 1 from by omega] at h1
  clear cN fN h
  generalize w.setCell ⟨E.bN, 0, none⟩ (.int .i32 ((s.count : Int) + 1)) = w1 at h1 ⊢
  have cN := h1.boxN.cell
  rw [show (((s.count + 1 : Nat)) : Int) = (s.count : Int) + 1 from by omega] at cN
  have cI := h1.boxI.cell
  have cL := h1.boxL.cell
  have aI := h1.arrI.cell hv
  have fI := h1.arrI.free v
  have aL := h1.arrL.cell hv
  have fL := h1.arrL.free v
  have n1 : E.gI ≠ E.gL := h1.sep.inj 7 8 (by decide) (by decide) (by decide)
  have n2 : E.gI ≠ E.bL := h1.sep.inj 7 1 (by decide) (by decide) (by decide)
  have n3 : E.gL ≠ E.bI := h1.sep.inj 8 0 (by decide) (by decide) (by decide)
  have n4 : E.gI ≠ E.bN := h1.sep.inj 7 5 (by decide) (by decide) (by decide)
  have n5 : E.gL ≠ E.bN := h1.sep.inj 8 5 (by decide) (by decide) (by decide)
  have n6 : E.gI ≠ E.bI := h1.sep.inj 7 0 (by decide) (by decide) (by decide)
  have n7 : E.gL ≠ E.bL := h1.sep.inj 8 1 (by decide) (by decide) (by decide)
  go_region
  have h2 := ((h1.setIdx v (s.count + 1)).setLow v (s.count + 1)).drew
  rw [show (((s.count + 1 : Nat)) : Int) = (s.count : Int) + 1 from by omega] at h2
  clear cN cI cL aI fI aL fL n1 n2 n3 n4 n5 n6 n7 h1
  generalize ((w1.setCell ⟨E.gI, v, none⟩ (.int .i32 ((s.count : Int) + 1))).setCell ⟨E.gL, v, none⟩ (.int .i32 ((s.count : Int) + 1))).drew = w2 at h2 ⊢
  have cS := h2.boxS.cell
  have fS := h2.boxS.free
  obtain ⟨i0, hi, hz0, hz1, hz2⟩ := info_parts Try.info21
  have hown : (w2.alloc (.cells #[.int .i32 (v : Int)] 21)).ownsRow w0.heap.size 21 1 vS s.stk.length (ints s.stk.reverse) := (h2.alloc _).ownS
  have hsz : w0.heap.size ≤ w2.heap.size := h2.below.size
  go_wp2_with (at_builtin; refine wpList_append_lies _ rfl (.tmp 19) (.tmp 21) 22 rfl w0.heap.size 21 i0 (.int .i32 0) 1 4 Try.underlying22 hi hz0 hz1 hz2 rfl (by decide) vS s.stk.length (ints s.stk.reverse) rfl hown ⟨w2.heap.size, 0, none⟩ 1 1 [.int .i32 (v : Int)] rfl rfl (cell_one_new _ _ _) (by intro u hu; simp at hu; subst hu; rfl) (by decide) (by unfold maxLen; omega) (by omega) (by simp; omega) (w2.heap.size + 1) (by simp) ?_)
  intro g cap w3 hown3 hgrow hat hlt
  have h3 := (h2.alloc (.cells #[.int .i32 (v : Int)] 21)).pushStk v hown3 rfl hgrow (by simpa using hat)
  have hbS : E.bS < w2.heap.size := h2.boxS.lt
  have cS3 : w3.cell? ⟨E.bS, 0, none⟩ = some vS := (((h2.alloc (.cells #[.int .i32 (v : Int)] 21)).boxS.keep (hgrow.block E.bS (by simp; omega) (fun e => h2.sep.oS _ e.symm 3 (by decide) rfl)))).cell
  have fS3 : w3.frozen? ⟨E.bS, 0, none⟩ = false := (((h2.alloc (.cells #[.int .i32 (v : Int)] 21)).boxS.keep (hgrow.block E.bS (by simp; omega) (fun e => h2.sep.oS _ e.symm 3 (by decide) rfl)))).free
  clear hown hown3 hgrow hat hlt cS fS hi hz0 hz1 hz2 h2 hbS
  go_upto_region 3 with fail
  generalize w3.setCell ⟨E.bS, 0, none⟩ (.slice (some ⟨g, 0, none⟩) (s.stk.length + 1) cap) = w4 at h3 ⊢
  clear cS3 fS3
  have cO := h3.boxO.cell
  have aO := h3.arrO.cell hv
  have fO := h3.arrO.free v
  go_upto_region 4 with fail
  have h4 := h3.setOns v true
  clear cO aO fO h3
  generalize w4.setCell ⟨E.gO, v, none⟩ (.bool true) = w5 at h4 ⊢
  have cC := h4.boxC.cell
  have fC := h4.boxC.free
  have cG := h4.boxG.cell
  have cg := (h4.below.cell (p := ⟨E.gg, 0, none⟩) hgg).trans c0
  have cs' := (h4.below.cell (p := ⟨bs, os + v, none⟩) hbs).trans c1
  have q3 : (v : Int) < (E.n : Int) + 1 := by omega
  have hsz5 : w0.heap.size ≤ w5.heap.size := h4.below.size
  have hbC : E.bC < w5.heap.size := h4.boxC.lt
  obtain ⟨i1, hi, hz0, hz1, hz2⟩ := info_parts Try.info90
  have hoK : ∀ k, vK.ownBlock = some k → w0.heap.size ≤ k := fun k hk => (h4.ownK.lt k hk).1
  have hlt5 : ∀ k, k < w0.heap.size → ∀ w6, (w5.alloc (.cells #[.int .i32 (v : Int), .int .i32 (x : Int)] 90)).drew.grownBy w6 vK.ownBlock → w6.heap[k]? = w5.heap[k]? := by
    intro k hk w6 hg
    rw [hg.block k (by simp; omega) (fun e => by have := hoK k e.symm; omega)]
    exact Below.heap_alloc w5 _ k (by omega)
  have hfx5 : ∀ i, i < 11 → ∀ w6, (w5.alloc (.cells #[.int .i32 (v : Int), .int .i32 (x : Int)] 90)).drew.grownBy w6 vK.ownBlock → w6.heap[E.b i]? = w5.heap[E.b i]? := by
    intro i hi w6 hg
    have hl := h4.lt i hi
    rw [hg.block (E.b i) (by simp; omega) (fun e => h4.sep.oK _ e.symm i hi rfl)]
    exact Below.heap_alloc w5 _ _ hl
  have HK : Hid (∀ w6, (w5.alloc (.cells #[.int .i32 (v : Int), .int .i32 (x : Int)] 90)).drew.grownBy w6 vK.ownBlock → w6.cell? ⟨E.bC, 0, none⟩ = some vK ∧ w6.frozen? ⟨E.bC, 0, none⟩ = false ∧ w6.cell? ⟨E.bG, 0, none⟩ = some (.pointer (some ⟨E.gg, 0, none⟩)) ∧ w6.cell? ⟨E.gg, 0, none⟩ = some (.slice (some ⟨bs, os, none⟩) (E.n + 1) cs) ∧ w6.cell? ⟨bs, os + v, none⟩ = some (.int .i32 (x : Int))) := by
    intro w6 hg
    exact ⟨(h4.boxC.keep (hfx5 4 (by decide) w6 hg)).cell, (h4.boxC.keep (hfx5 4 (by decide) w6 hg)).free, (h4.boxG.keep (hfx5 6 (by decide) w6 hg)).cell, (World.cell?_of_block (hlt5 E.gg hgg w6 hg)).trans cg, (World.cell?_of_block (hlt5 bs hbs w6 hg)).trans cs'⟩
  have hown : (w5.alloc (.cells #[.int .i32 (v : Int), .int .i32 (x : Int)] 90)).drew.ownsRow w0.heap.size 90 2 vK s.calls.length (frames s.nxt s.calls) := (h4.alloc _).drew.ownK
  have hnews : ∀ j u, [Value.int .i32 (v : Int), .int .i32 (x : Int)][j]? = some u → (w5.alloc (.cells #[.int .i32 (v : Int), .int .i32 (x : Int)] 90)).drew.cell? ((⟨w5.heap.size, 0, none⟩ : Addr).add j) = some u := fun j u hj => cell_two_new w5 _ _ 90 j u hj
  have HA : Hid ((w5.alloc (.cells #[.int .i32 (v : Int), .int .i32 (x : Int)] 90)).drew.cell? ⟨E.bC, 0, none⟩ = some vK ∧ (w5.alloc (.cells #[.int .i32 (v : Int), .int .i32 (x : Int)] 90)).drew.frozen? ⟨E.bC, 0, none⟩ = false ∧ (w5.alloc (.cells #[.int .i32 (v : Int), .int .i32 (x : Int)] 90)).drew.cell? ⟨E.bG, 0, none⟩ = some (.pointer (some ⟨E.gg, 0, none⟩)) ∧ (w5.alloc (.cells #[.int .i32 (v : Int), .int .i32 (x : Int)] 90)).drew.cell? ⟨E.gg, 0, none⟩ = some (.slice (some ⟨bs, os, none⟩) (E.n + 1) cs) ∧ (w5.alloc (.cells #[.int .i32 (v : Int), .int .i32 (x : Int)] 90)).drew.cell? ⟨bs, os + v, none⟩ = some (.int .i32 (x : Int))) := HK.out _ ⟨rfl, rfl, rfl, Nat.le_refl _, fun _ _ _ => rfl⟩
  clear hlt5 hfx5 hoK
  go_region_law (refine step_append_lies _ (by rfl) (.tmp 26) (.tmp 36) 88 (by rfl) w0.heap.size 90 i1 (.agg #[.int .i32 0, .int .i32 0]) 2 8 Try.underlying88 hi hz0 hz1 hz2 (by rfl) (by decide) vK s.calls.length (frames s.nxt s.calls) (by rfl) hown ⟨w5.heap.size, 0, none⟩ 1 1 [.int .i32 (v : Int), .int .i32 (x : Int)] (by rfl) (by rfl) hnews (by intro u hu; simp at hu; rcases hu with rfl | rfl <;> rfl) (by decide) (by unfold maxLen; omega) (by omega) (by simp; omega) (w5.heap.size + 1) (by simp) ?_; intro g6 cap6 w6 hown6 hgrow6 hat6 hlt6; have cC6 := (HK.out _ hgrow6).1; have fC6 := (HK.out _ hgrow6).2.1)
  all_goals
    go_end0
    obtain rfl : s.nxt v = x := HX.out
    exact ⟨rfl, _, _, (h4.alloc _).drew.pushCall v hown6 rfl hgrow6 (by simpa using hat6)⟩
end Go.Proofs.Qxb6001346a
