/-
  components: Tarjan's search, whole.
-/
import Derived.Test.Qxb6001346aOuter
import Derived.Test.Qxb6001346aPost
set_option linter.all false
namespace Go.Proofs.Qxb6001346a
open Go.RowKit Tj
attribute [local go_sem ↓] Go.wp_at_zero Go.wp_at_succ

theorem nodes_any (gg n bs os cs : Nat) (w : World) (hn : n ≤ 4096) (c0 : w.cell? ⟨gg, 0, none⟩ = some (.slice (some ⟨bs, os, none⟩) (n + 1) cs)) :
    Calls Try.prog 42 #[.pointer (some ⟨gg, 0, none⟩)] w fun e w' => e = .returned (.int .i64 n) ∧ w' = w := by
  go_enter Try.func42, Try.ntmps42
  go_wp2
  go_ret
  exact ⟨by simp, rfl⟩

section
variable {W : World} {N : Nat} {o0 o1 o2 o3 : Obj}
theorem at0 (hN : W.heap.size = N) : ((((W.alloc o0).alloc o1).alloc o2).alloc o3).drew.heap[N]? = some o0 := by
  show ((((W.heap.push o0).push o1).push o2).push o3)[N]? = _
  rw [Array.getElem?_push, Array.getElem?_push, Array.getElem?_push, Array.getElem?_push]
  simp only [Array.size_push]
  rw [if_neg (by omega)]
  rw [if_neg (by omega)]
  rw [if_neg (by omega)]
  rw [if_pos (by omega)]
theorem at1 (hN : W.heap.size = N) : ((((W.alloc o0).alloc o1).alloc o2).alloc o3).drew.heap[N + 1]? = some o1 := by
  show ((((W.heap.push o0).push o1).push o2).push o3)[N + 1]? = _
  rw [Array.getElem?_push, Array.getElem?_push, Array.getElem?_push, Array.getElem?_push]
  simp only [Array.size_push]
  rw [if_neg (by omega)]
  rw [if_neg (by omega)]
  rw [if_pos (by omega)]
theorem at2 (hN : W.heap.size = N) : ((((W.alloc o0).alloc o1).alloc o2).alloc o3).drew.heap[N + 1 + 1]? = some o2 := by
  show ((((W.heap.push o0).push o1).push o2).push o3)[N + 1 + 1]? = _
  rw [Array.getElem?_push, Array.getElem?_push, Array.getElem?_push, Array.getElem?_push]
  simp only [Array.size_push]
  rw [if_neg (by omega)]
  rw [if_pos (by omega)]
theorem at3 (hN : W.heap.size = N) : ((((W.alloc o0).alloc o1).alloc o2).alloc o3).drew.heap[N + 1 + 1 + 1]? = some o3 := by
  show ((((W.heap.push o0).push o1).push o2).push o3)[N + 1 + 1 + 1]? = _
  rw [Array.getElem?_push, Array.getElem?_push, Array.getElem?_push, Array.getElem?_push]
  simp only [Array.size_push]
  rw [if_pos (by omega)]
theorem below4 (hN : W.heap.size = N) : Below N W ((((W.alloc o0).alloc o1).alloc o2).alloc o3).drew := by
  subst hN
  exact (((((Below.refl _ _).alloc (Nat.le_refl _) _).alloc (by simp) _).alloc (by simp; omega) _).alloc (by simp; omega) _).drew
end
theorem Row.of_block {w : World} {g n : Nat} {e : TypeId} {z : Value} (h : w.heap[g]? = some (.cells (madeCells #[z] n) e (0, 0))) : Row w g e n (fun _ => z) := by
  refine ⟨_, h, fun i hi => ?_⟩
  rw [← Array.getElem?_toList, toList_madeCells_one]
  simp [List.getElem?_replicate, hi]

/-- What the region that makes 'index' and 'low' leaves, in whatever order. -/
def Made2 (N n : Nat) (W : World) (t7 t8 : Value) (wx : World) : Prop := ∃ bI bL gI gL, t7 = .pointer (some ⟨bI, 0, none⟩) ∧ t8 = .pointer (some ⟨bL, 0, none⟩) ∧ Box wx bI 22 (.slice (some ⟨gI, 0, none⟩) n n) ∧ Box wx bL 22 (.slice (some ⟨gL, 0, none⟩) n n) ∧ Row wx gI 21 n (fun _ => .int .i32 0) ∧ Row wx gL 21 n (fun _ => .int .i32 0) ∧
    Below N W wx ∧ (bI ≠ bL ∧ bI ≠ gI ∧ bI ≠ gL ∧ bL ≠ gI ∧ bL ≠ gL ∧ gI ≠ gL ∧ N ≤ bI ∧ N ≤ bL ∧ N ≤ gI ∧ N ≤ gL)
theorem made2_mk {N n : Nat} {W wx : World} {bI bL gI gL : Nat} (b1 : Box wx bI 22 (.slice (some ⟨gI, 0, none⟩) n n)) (b2 : Box wx bL 22 (.slice (some ⟨gL, 0, none⟩) n n)) (r1 : wx.heap[gI]? = some (.cells (madeCells #[.int .i32 0] n) 21 (0, 0))) (r2 : wx.heap[gL]? = some (.cells (madeCells #[.int .i32 0] n) 21 (0, 0)))
    (bel : Below N W wx) (ne : bI ≠ bL ∧ bI ≠ gI ∧ bI ≠ gL ∧ bL ≠ gI ∧ bL ≠ gL ∧ gI ≠ gL ∧ N ≤ bI ∧ N ≤ bL ∧ N ≤ gI ∧ N ≤ gL) : Made2 N n W (.pointer (some ⟨bI, 0, none⟩)) (.pointer (some ⟨bL, 0, none⟩)) wx :=
  ⟨bI, bL, gI, gL, rfl, rfl, b1, b2, Row.of_block r1, Row.of_block r2, bel, ne⟩

section
variable {W : World} {N : Nat} {o0 o1 o2 o3 o4 : Obj}
theorem five0 (hN : W.heap.size = N) : (((((W.alloc o0).alloc o1).alloc o2).alloc o3).alloc o4).heap[N]? = some o0 := by
  show (((((W.heap.push o0).push o1).push o2).push o3).push o4)[N]? = _
  rw [Array.getElem?_push, Array.getElem?_push, Array.getElem?_push, Array.getElem?_push, Array.getElem?_push]
  simp only [Array.size_push]
  rw [if_neg (by omega)]
  rw [if_neg (by omega)]
  rw [if_neg (by omega)]
  rw [if_neg (by omega)]
  rw [if_pos (by omega)]
theorem five1 (hN : W.heap.size = N) : (((((W.alloc o0).alloc o1).alloc o2).alloc o3).alloc o4).heap[N + 1]? = some o1 := by
  show (((((W.heap.push o0).push o1).push o2).push o3).push o4)[N + 1]? = _
  rw [Array.getElem?_push, Array.getElem?_push, Array.getElem?_push, Array.getElem?_push, Array.getElem?_push]
  simp only [Array.size_push]
  rw [if_neg (by omega)]
  rw [if_neg (by omega)]
  rw [if_neg (by omega)]
  rw [if_pos (by omega)]
theorem five2 (hN : W.heap.size = N) : (((((W.alloc o0).alloc o1).alloc o2).alloc o3).alloc o4).heap[N + 1 + 1]? = some o2 := by
  show (((((W.heap.push o0).push o1).push o2).push o3).push o4)[N + 1 + 1]? = _
  rw [Array.getElem?_push, Array.getElem?_push, Array.getElem?_push, Array.getElem?_push, Array.getElem?_push]
  simp only [Array.size_push]
  rw [if_neg (by omega)]
  rw [if_neg (by omega)]
  rw [if_pos (by omega)]
theorem five3 (hN : W.heap.size = N) : (((((W.alloc o0).alloc o1).alloc o2).alloc o3).alloc o4).heap[N + 1 + 1 + 1]? = some o3 := by
  show (((((W.heap.push o0).push o1).push o2).push o3).push o4)[N + 1 + 1 + 1]? = _
  rw [Array.getElem?_push, Array.getElem?_push, Array.getElem?_push, Array.getElem?_push, Array.getElem?_push]
  simp only [Array.size_push]
  rw [if_neg (by omega)]
  rw [if_pos (by omega)]
theorem five4 (hN : W.heap.size = N) : (((((W.alloc o0).alloc o1).alloc o2).alloc o3).alloc o4).heap[N + 1 + 1 + 1 + 1]? = some o4 := by
  show (((((W.heap.push o0).push o1).push o2).push o3).push o4)[N + 1 + 1 + 1 + 1]? = _
  rw [Array.getElem?_push, Array.getElem?_push, Array.getElem?_push, Array.getElem?_push, Array.getElem?_push]
  simp only [Array.size_push]
  rw [if_pos (by omega)]
theorem five_old {k : Nat} (h : k < W.heap.size) : (((((W.alloc o0).alloc o1).alloc o2).alloc o3).alloc o4).heap[k]? = W.heap[k]? := by
  show (((((W.heap.push o0).push o1).push o2).push o3).push o4)[k]? = _
  rw [Array.getElem?_push, Array.getElem?_push, Array.getElem?_push, Array.getElem?_push, Array.getElem?_push]
  simp only [Array.size_push]
  rw [if_neg (by omega), if_neg (by omega), if_neg (by omega), if_neg (by omega), if_neg (by omega)]
end

/-- The world as the outer loop is entered. -/
theorem rep_init {w wc : World} {n gg bI bL gI gL : Nat} (g : Gr) (hbel : Below (w.heap.size + 1 + 1) ((w.alloc (.cells #[.pointer (some ⟨gg, 0, none⟩)] 58)).alloc (.cells (madeCells #[.int .i32 0] n) 21)) wc)
    (xI : Box wc bI 22 (.slice (some ⟨gI, 0, none⟩) n n)) (xL : Box wc bL 22 (.slice (some ⟨gL, 0, none⟩) n n)) (yI : Row wc gI 21 n (fun _ => .int .i32 0)) (yL : Row wc gL 21 n (fun _ => .int .i32 0))
    (d1 : bI ≠ bL) (d2 : bI ≠ gI) (d3 : bI ≠ gL) (d4 : bL ≠ gI) (d5 : bL ≠ gL) (d6 : gI ≠ gL) (e1 : w.heap.size + 1 + 1 ≤ bI) (e2 : w.heap.size + 1 + 1 ≤ bL) (e3 : w.heap.size + 1 + 1 ≤ gI) (e4 : w.heap.size + 1 + 1 ≤ gL) :
    Rep { n := n, gg := gg, bI := bI, bL := bL, bO := wc.heap.size + 1, bS := wc.heap.size + 1 + 1, bC := wc.heap.size + 1 + 1 + 1, bN := wc.heap.size + 1 + 1 + 1 + 1, bG := w.heap.size, gI := gI, gL := gL, gO := wc.heap.size, gM := w.heap.size + 1 }
      w (((((wc.alloc (.cells (madeCells #[.bool false] n) 4)).alloc (.cells #[.slice (some ⟨wc.heap.size, 0, none⟩) n n] 31)).alloc (.cells #[.slice none 0 0] 22)).alloc (.cells #[.slice none 0 0] 88)).alloc (.cells #[.int .i32 0] 21)) (Tj.init g) (.slice none 0 0) (.slice none 0 0) (.slice none 0 0) := by
  have hsz : w.heap.size + 1 + 1 ≤ wc.heap.size := by have := hbel.size; simp at this; omega
  have lI := xI.lt
  have lL := xL.lt
  have lgI := yI.lt
  have lgL := yL.lt
  have cG : wc.heap[w.heap.size]? = some (.cells #[.pointer (some ⟨gg, 0, none⟩)] 58) := by
    rw [hbel.block _ (by omega), Below.heap_alloc _ _ _ (by simp)]
    exact heap_alloc_new w _
  have cM : wc.heap[w.heap.size + 1]? = some (.cells (madeCells #[.int .i32 0] n) 21) := by
    rw [hbel.block _ (by omega)]
    have := heap_alloc_new (w.alloc (.cells #[.pointer (some ⟨gg, 0, none⟩)] 58)) (.cells (madeCells #[.int .i32 0] n) 21)
    simpa using this
  have x0 : Ev.b { n := n, gg := gg, bI := bI, bL := bL, bO := wc.heap.size + 1, bS := wc.heap.size + 1 + 1, bC := wc.heap.size + 1 + 1 + 1, bN := wc.heap.size + 1 + 1 + 1 + 1, bG := w.heap.size, gI := gI, gL := gL, gO := wc.heap.size, gM := w.heap.size + 1 } 0 = bI := rfl
  have x1 : Ev.b { n := n, gg := gg, bI := bI, bL := bL, bO := wc.heap.size + 1, bS := wc.heap.size + 1 + 1, bC := wc.heap.size + 1 + 1 + 1, bN := wc.heap.size + 1 + 1 + 1 + 1, bG := w.heap.size, gI := gI, gL := gL, gO := wc.heap.size, gM := w.heap.size + 1 } 1 = bL := rfl
  have x2 : Ev.b { n := n, gg := gg, bI := bI, bL := bL, bO := wc.heap.size + 1, bS := wc.heap.size + 1 + 1, bC := wc.heap.size + 1 + 1 + 1, bN := wc.heap.size + 1 + 1 + 1 + 1, bG := w.heap.size, gI := gI, gL := gL, gO := wc.heap.size, gM := w.heap.size + 1 } 2 = wc.heap.size + 1 := rfl
  have x3 : Ev.b { n := n, gg := gg, bI := bI, bL := bL, bO := wc.heap.size + 1, bS := wc.heap.size + 1 + 1, bC := wc.heap.size + 1 + 1 + 1, bN := wc.heap.size + 1 + 1 + 1 + 1, bG := w.heap.size, gI := gI, gL := gL, gO := wc.heap.size, gM := w.heap.size + 1 } 3 = wc.heap.size + 1 + 1 := rfl
  have x4 : Ev.b { n := n, gg := gg, bI := bI, bL := bL, bO := wc.heap.size + 1, bS := wc.heap.size + 1 + 1, bC := wc.heap.size + 1 + 1 + 1, bN := wc.heap.size + 1 + 1 + 1 + 1, bG := w.heap.size, gI := gI, gL := gL, gO := wc.heap.size, gM := w.heap.size + 1 } 4 = wc.heap.size + 1 + 1 + 1 := rfl
  have x5 : Ev.b { n := n, gg := gg, bI := bI, bL := bL, bO := wc.heap.size + 1, bS := wc.heap.size + 1 + 1, bC := wc.heap.size + 1 + 1 + 1, bN := wc.heap.size + 1 + 1 + 1 + 1, bG := w.heap.size, gI := gI, gL := gL, gO := wc.heap.size, gM := w.heap.size + 1 } 5 = wc.heap.size + 1 + 1 + 1 + 1 := rfl
  have x6 : Ev.b { n := n, gg := gg, bI := bI, bL := bL, bO := wc.heap.size + 1, bS := wc.heap.size + 1 + 1, bC := wc.heap.size + 1 + 1 + 1, bN := wc.heap.size + 1 + 1 + 1 + 1, bG := w.heap.size, gI := gI, gL := gL, gO := wc.heap.size, gM := w.heap.size + 1 } 6 = w.heap.size := rfl
  have x7 : Ev.b { n := n, gg := gg, bI := bI, bL := bL, bO := wc.heap.size + 1, bS := wc.heap.size + 1 + 1, bC := wc.heap.size + 1 + 1 + 1, bN := wc.heap.size + 1 + 1 + 1 + 1, bG := w.heap.size, gI := gI, gL := gL, gO := wc.heap.size, gM := w.heap.size + 1 } 7 = gI := rfl
  have x8 : Ev.b { n := n, gg := gg, bI := bI, bL := bL, bO := wc.heap.size + 1, bS := wc.heap.size + 1 + 1, bC := wc.heap.size + 1 + 1 + 1, bN := wc.heap.size + 1 + 1 + 1 + 1, bG := w.heap.size, gI := gI, gL := gL, gO := wc.heap.size, gM := w.heap.size + 1 } 8 = gL := rfl
  have x9 : Ev.b { n := n, gg := gg, bI := bI, bL := bL, bO := wc.heap.size + 1, bS := wc.heap.size + 1 + 1, bC := wc.heap.size + 1 + 1 + 1, bN := wc.heap.size + 1 + 1 + 1 + 1, bG := w.heap.size, gI := gI, gL := gL, gO := wc.heap.size, gM := w.heap.size + 1 } 9 = wc.heap.size := rfl
  have x10 : Ev.b { n := n, gg := gg, bI := bI, bL := bL, bO := wc.heap.size + 1, bS := wc.heap.size + 1 + 1, bC := wc.heap.size + 1 + 1 + 1, bN := wc.heap.size + 1 + 1 + 1 + 1, bG := w.heap.size, gI := gI, gL := gL, gO := wc.heap.size, gM := w.heap.size + 1 } 10 = w.heap.size + 1 := rfl
  have b0 : Below w.heap.size w wc := (((Below.refl _ _).alloc (Nat.le_refl _) _).alloc (by simp) _).trans (hbel.mono (by omega))
  exact {
    below := ((((b0.alloc (by omega) _).alloc (by simp; omega) _).alloc (by simp; omega) _).alloc (by simp; omega) _).alloc (by simp; omega) _
    boxI := xI.keep (five_old lI)
    boxL := xL.keep (five_old lL)
    boxO := five1 rfl
    boxS := five2 rfl
    boxC := five3 rfl
    boxN := five4 rfl
    boxG := (five_old (k := w.heap.size) (by omega)).trans cG
    arrI := (yI.keep (five_old lgI)).congr (fun _ _ => rfl)
    arrL := (yL.keep (five_old lgL)).congr (fun _ _ => rfl)
    arrO := (Row.of_block (five0 rfl)).congr (fun _ _ => rfl)
    arrM := (Row.of_block ((five_old (k := w.heap.size + 1) (by omega)).trans cM)).congr (fun _ _ => rfl)
    ownS := World.ownsRow_nil _ _ _ _
    ownK := World.ownsRow_nil _ _ _ _
    ownZ := World.ownsRow_nil _ _ _ _
    sep := {
      inj := by
        intro i j hi hj hij
        rcases (show i = 0 ∨ i = 1 ∨ i = 2 ∨ i = 3 ∨ i = 4 ∨ i = 5 ∨ i = 6 ∨ i = 7 ∨ i = 8 ∨ i = 9 ∨ i = 10 by omega) with rfl | rfl | rfl | rfl | rfl | rfl | rfl | rfl | rfl | rfl | rfl <;>
        rcases (show j = 0 ∨ j = 1 ∨ j = 2 ∨ j = 3 ∨ j = 4 ∨ j = 5 ∨ j = 6 ∨ j = 7 ∨ j = 8 ∨ j = 9 ∨ j = 10 by omega) with rfl | rfl | rfl | rfl | rfl | rfl | rfl | rfl | rfl | rfl | rfl <;>
        first
        | exact absurd rfl hij
        | (simp only [x0, x1, x2, x3, x4, x5, x6, x7, x8, x9, x10]; omega)
      ge := by
        intro i hi
        rcases (show i = 0 ∨ i = 1 ∨ i = 2 ∨ i = 3 ∨ i = 4 ∨ i = 5 ∨ i = 6 ∨ i = 7 ∨ i = 8 ∨ i = 9 ∨ i = 10 by omega) with rfl | rfl | rfl | rfl | rfl | rfl | rfl | rfl | rfl | rfl | rfl <;> (simp only [x0, x1, x2, x3, x4, x5, x6, x7, x8, x9, x10]; omega)
      oS := by intro k hk; cases hk
      oK := by intro k hk; cases hk
      oZ := by intro k hk; cases hk
      sk := by intro k hk; cases hk
      sz := by intro k hk; cases hk
      kz := by intro k hk; cases hk } }

set_option maxRecDepth 1000000 in
set_option maxHeartbeats 4000000 in
theorem components_any {w : World} {gg n m bs os cs : Nat} {at' : Option Addr} {ct : Nat} {ak : Option Addr} {ck : Nat} {g : Gr} {kd : Nat → Int} {mask : Int} (G : GW w gg n m bs os cs at' ct ak ck g kd mask) :
    Calls Try.prog 37 #[.pointer (some ⟨gg, 0, none⟩), .int .u8 mask] w (CompPost g n w) := by
  have hn := G.n_le
  have gl := G.gg_lt
  have c0 := G.c0
  have mkI := run_make_row' (P := Try.prog) 22 21 (.int .i32 0) 4 Try.underlying22 Try.info21 rfl .i64 .i64 n (by omega) (by omega)
  have mkB := run_make_row' (P := Try.prog) 31 4 (.bool false) 1 Try.underlying31 Try.info4 rfl .i64 .i64 n (by omega) (by omega)
  have c0' : (w.alloc (.cells #[.pointer (some ⟨gg, 0, none⟩)] 58)).cell? ⟨gg, 0, none⟩ = some (.slice (some ⟨bs, os, none⟩) (n + 1) cs) := by rw [World.cell?_alloc_past _ _ _ gl]; exact c0
  go_enter Try.func37, Try.ntmps37
  go_upto_region 3 with (go_at_call 42; refine (nodes_any gg n bs os cs _ hn c0').mono ?_; rintro e w' ⟨rfl, rfl⟩)
  clear c0' c0
  go_cut [7, 8] (fun t7 t8 wx => Made2 (w.heap.size + 1 + 1) n ((w.alloc (.cells #[.pointer (some ⟨gg, 0, none⟩)] 58)).alloc (.cells (madeCells #[.int .i32 0] n) 21)) t7 t8 wx)
  case first =>
    have hN : ((w.alloc (.cells #[.pointer (some ⟨gg, 0, none⟩)] 58)).alloc (.cells (madeCells #[.int .i32 0] n) 21)).heap.size = w.heap.size + 1 + 1 := by simp
    go_region
    all_goals
      go_wp2
      go_meet
      case rel =>
        exact made2_mk (by first | exact at0 hN | exact at1 hN | exact at2 hN | exact at3 hN) (by first | exact at0 hN | exact at1 hN | exact at2 hN | exact at3 hN) (by first | exact at0 hN | exact at1 hN | exact at2 hN | exact at3 hN) (by first | exact at0 hN | exact at1 hN | exact at2 hN | exact at3 hN) (below4 hN) (by omega)
  case rest =>
    obtain ⟨bI, bL, gI, gL, rfl, rfl, xI, xL, yI, yL, hbel, d1, d2, d3, d4, d5, d6, e1, e2, e3, e4⟩ := hcut
    have hmf : ∀ (fn : Fn) (first cap : Array Value) (w : World), (Instr.makeFunc fn first cap).run Try.prog w = .ok (.func fn first cap) w := fun _ _ _ _ => rfl
    have hrep := rep_init g hbel xI xL yI yL d1 d2 d3 d4 d5 d6 e1 e2 e3 e4
    clear hbel xI xL yI yL d1 d2 d3 d4 d5 d6 e1 e2 e3 e4
    go_wp2_with fail
    refine outer_loop G _ _ ?_ (Tj.init g) _ _ hrep (Tj.init_inv G.wf) rfl _ _ _ _ _ _ _ _ _ _ _ _ _ _ _ _ _ _ _ _ _ _ _ _ _ _ _ _ _ _ _ _ _ _ _ _ _ _ _ _ _ _ _ _ _ _ _ _ _ _ _ _ _ _ _ _ _ _ _ _ _ _ _ _ _ _ _ _ _ _ _ _ _ _ _ _ _ _ _ _ _ _ _ _ _ _ _ _ _ _ _ _ _ _ _ _ _ _ _ _ _ _ _ _ _ _ _ _ _ _ _ _ _ _ _ _ _ _ _ _ _ _ _ _ _ _ _ _ _ _ _ _ _ _ _ _ _ _ _ _ _ _ _ _ _ _ _ _ _ _ _ _ _ _ _ _ _ _ _ _ _ _ _ _ _ _ _ _ _ _ _ _ _ _ _ _ _ _ _ _ _ _ _ _ _ _ _ _ _
    intro wr s vS vK vZ hr hi hc hv d3 d14 d15 d16 d17 d18 d19 d20 d21 d22 d23 d24 d25 d26 d27 d28 d29 d30 d31 d32 d33 d34 d35 d36 d37 d38 d39 d40 d41 d42 d43 d44 d45 d46 d47 d48 d49 d50 d51 d52 d53 d54 d55 d56 d57 d58 d59 d60 d61 d62 d63 d64 d65 d66 d67 d68 d69 d70 d71 d72 d73 d74 d75 d76 d77 d78 d79 d80 d81 d82 d83 d84 d85 d86 d87 d88 d89 d90 d91 d92 d93 d94 d95 d96 d97 d98 d99 d100 d101 d102 d103 d104 d105 d106 d107 d108 d109 d110 d111 d112 d113 d114 d115 d116 d117 d118 d119 d120 d121 d122 d123 d124 d125 d126 d127 d128 d129 d130 d131 d132 d133 d134 d135 d136 d137 d138 d139 d140 d141 d142 d143 d144 d145 d146 d147 d148 d149 d150 d151 d152 d153 d154 d155 d156 d157 d158 d159 d160 d161 d162 d163 d164 d165 d166 d167 d168 d169 d170 d171 d172 d173 d174 d175 d176 d177 d178 d179 d180 d181 d182 d183 d184 d185 d186 d187 d188 d189 d190 d191 d192 d193 d194 d195 d196 d197 d198 d199 d200 d201 d202
    have FIN : Hid (Below w.heap.size w wr ∧ Row wr (w.heap.size + 1) 21 n (fun i => .int .i32 ((s.comp i : Nat) : Int)) ∧ wr.ownsRow w.heap.size 21 1 vZ s.size.length (ints s.size) ∧ Res g s.comp s.size) := ⟨hr.below, hr.arrM, hr.ownZ, res_of hi hc (fun u hu => hv u (by rw [← G.n_eq]; exact hu))⟩
    clear hr hi hc hv hrep hmf mkI mkB
    go_wp2_with fail
    go_ret2
    exact ⟨_, _, s.comp, s.size, rfl, FIN.out⟩
end Go.Proofs.Qxb6001346a
