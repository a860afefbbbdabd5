/-
  THE WORLD OF 'components' BESIDE THE PLAIN STATE: which block holds what ('Rep'), and what each store and append does to it.
-/
import Derived.Test.Qxb6001346aMem
import Derived.Deep.AppendLies
import Derived.WalkSmall
set_option linter.all false
namespace Go.Proofs.Qxb6001346a
open Go.RowKit Tj

/-- The blocks that stay: the boxes of the captured variables (bI .. bG), the arrays (gI .. gM: index, low, onStack, comp); gg: the graph's own struct (older); n: the number of nodes. -/
structure Ev where
  n : Nat
  gg : Nat
  bI : Nat
  bL : Nat
  bO : Nat
  bS : Nat
  bC : Nat
  bN : Nat
  bG : Nat
  gI : Nat
  gL : Nat
  gO : Nat
  gM : Nat
def Ev.b (E : Ev) : Nat → Nat
  | 0 => E.bI
  | 1 => E.bL
  | 2 => E.bO
  | 3 => E.bS
  | 4 => E.bC
  | 5 => E.bN
  | 6 => E.bG
  | 7 => E.gI
  | 8 => E.gL
  | 9 => E.gO
  | _ => E.gM

def frames (nxt : Nat → Nat) (l : List Nat) : List Value := l.reverse.flatMap fun (x : Nat) => [Value.int .i32 (x : Int), Value.int .i32 (nxt x : Int)]
def ints (l : List Nat) : List Value := l.map fun (x : Nat) => Value.int .i32 (x : Int)

/-- No two of the blocks are one. -/
structure Sep (E : Ev) (B : Nat) (vS vK vZ : Value) : Prop where
  inj : ∀ i j, i < 11 → j < 11 → i ≠ j → E.b i ≠ E.b j
  ge : ∀ i, i < 11 → B ≤ E.b i
  oS : ∀ k, vS.ownBlock = some k → ∀ i, i < 11 → k ≠ E.b i
  oK : ∀ k, vK.ownBlock = some k → ∀ i, i < 11 → k ≠ E.b i
  oZ : ∀ k, vZ.ownBlock = some k → ∀ i, i < 11 → k ≠ E.b i
  sk : ∀ k, vS.ownBlock = some k → vK.ownBlock ≠ some k
  sz : ∀ k, vS.ownBlock = some k → vZ.ownBlock ≠ some k
  kz : ∀ k, vK.ownBlock = some k → vZ.ownBlock ≠ some k

def Box (w : World) (b : Nat) (e : TypeId) (v : Value) : Prop := w.heap[b]? = some (.cells #[v] e (0, 0))
theorem Box.cell {w : World} {b : Nat} {e : TypeId} {v : Value} (h : Box w b e v) : w.cell? ⟨b, 0, none⟩ = some v := cell_of_one h
theorem Box.free {w : World} {b : Nat} {e : TypeId} {v : Value} (h : Box w b e v) : w.frozen? ⟨b, 0, none⟩ = false := free_of_one h
theorem Box.keep {w w' : World} {b : Nat} {e : TypeId} {v : Value} (h : Box w b e v) (hk : w'.heap[b]? = w.heap[b]?) : Box w' b e v := hk.trans h
theorem Box.set {w : World} {b : Nat} {e : TypeId} {v : Value} (h : Box w b e v) (u : Value) : Box (w.setCell ⟨b, 0, none⟩ u) b e u := one_setCell h
theorem Box.lt {w : World} {b : Nat} {e : TypeId} {v : Value} (h : Box w b e v) : b < w.heap.size := lt_of_block h
theorem owns_keep {w w' : World} {base : Nat} {e : TypeId} {size : Nat} {v : Value} {n : Nat} {xs : List Value} (h : w.ownsRow base e size v n xs) (hk : ∀ k, v.ownBlock = some k → w'.heap[k]? = w.heap[k]?) : w'.ownsRow base e size v n xs := by
  refine ⟨h.1, ?_⟩
  rcases h.2 with h2 | ⟨g, cap, cur, rfl, hb, hg, r⟩
  · exact .inl h2
  · exact .inr ⟨g, cap, cur, rfl, hb, by rw [hk g rfl]; exact hg, r⟩

structure Rep (E : Ev) (w0 w : World) (s : St) (vS vK vZ : Value) : Prop where
  below : Below w0.heap.size w0 w
  boxI : Box w E.bI 22 (.slice (some ⟨E.gI, 0, none⟩) E.n E.n)
  boxL : Box w E.bL 22 (.slice (some ⟨E.gL, 0, none⟩) E.n E.n)
  boxO : Box w E.bO 31 (.slice (some ⟨E.gO, 0, none⟩) E.n E.n)
  boxS : Box w E.bS 22 vS
  boxC : Box w E.bC 88 vK
  boxN : Box w E.bN 21 (.int .i32 s.count)
  boxG : Box w E.bG 58 (.pointer (some ⟨E.gg, 0, none⟩))
  arrI : Row w E.gI 21 E.n (fun i => .int .i32 (s.idx i))
  arrL : Row w E.gL 21 E.n (fun i => .int .i32 (s.low i))
  arrO : Row w E.gO 4 E.n (fun i => .bool (s.ons i))
  arrM : Row w E.gM 21 E.n (fun i => .int .i32 (s.comp i))
  ownS : w.ownsRow w0.heap.size 21 1 vS s.stk.length (ints s.stk.reverse)
  ownK : w.ownsRow w0.heap.size 90 2 vK s.calls.length (frames s.nxt s.calls)
  ownZ : w.ownsRow w0.heap.size 21 1 vZ s.size.length (ints s.size)
  sep : Sep E w0.heap.size vS vK vZ

section
variable {E : Ev} {w0 w : World} {s : St} {vS vK vZ : Value}
theorem Rep.setCount (h : Rep E w0 w s vS vK vZ) (c : Nat) : Rep E w0 (w.setCell ⟨E.bN, 0, none⟩ (.int .i32 c)) { s with count := c } vS vK vZ := by
  have hk : ∀ k, k ≠ E.bN → (w.setCell ⟨E.bN, 0, none⟩ (.int .i32 c)).heap[k]? = w.heap[k]? := fun k hk => Below.heap_setCell w _ _ k hk
  exact {
    below := h.below.setCell (h.sep.ge 5 (by decide)) _
    boxI := h.boxI.keep (hk _ (h.sep.inj 0 5 (by decide) (by decide) (by decide)))
    boxL := h.boxL.keep (hk _ (h.sep.inj 1 5 (by decide) (by decide) (by decide)))
    boxO := h.boxO.keep (hk _ (h.sep.inj 2 5 (by decide) (by decide) (by decide)))
    boxS := h.boxS.keep (hk _ (h.sep.inj 3 5 (by decide) (by decide) (by decide)))
    boxC := h.boxC.keep (hk _ (h.sep.inj 4 5 (by decide) (by decide) (by decide)))
    boxN := h.boxN.set _
    boxG := h.boxG.keep (hk _ (h.sep.inj 6 5 (by decide) (by decide) (by decide)))
    arrI := h.arrI.keep (hk _ (h.sep.inj 7 5 (by decide) (by decide) (by decide)))
    arrL := h.arrL.keep (hk _ (h.sep.inj 8 5 (by decide) (by decide) (by decide)))
    arrO := h.arrO.keep (hk _ (h.sep.inj 9 5 (by decide) (by decide) (by decide)))
    arrM := h.arrM.keep (hk _ (h.sep.inj 10 5 (by decide) (by decide) (by decide)))
    ownS := owns_keep h.ownS (fun k hk' => hk k (h.sep.oS k hk' 5 (by decide)))
    ownK := owns_keep h.ownK (fun k hk' => hk k (h.sep.oK k hk' 5 (by decide)))
    ownZ := owns_keep h.ownZ (fun k hk' => hk k (h.sep.oZ k hk' 5 (by decide)))
    sep := h.sep }
theorem Rep.setIdx (h : Rep E w0 w s vS vK vZ) (v x : Nat) : Rep E w0 (w.setCell ⟨E.gI, v, none⟩ (.int .i32 x)) { s with idx := upd s.idx v x } vS vK vZ := by
  have hk : ∀ k, k ≠ E.gI → (w.setCell ⟨E.gI, v, none⟩ (.int .i32 x)).heap[k]? = w.heap[k]? := fun k hk => Below.heap_setCell w _ _ k hk
  exact {
    below := h.below.setCell (h.sep.ge 7 (by decide)) _
    boxI := h.boxI.keep (hk _ (h.sep.inj 0 7 (by decide) (by decide) (by decide)))
    boxL := h.boxL.keep (hk _ (h.sep.inj 1 7 (by decide) (by decide) (by decide)))
    boxO := h.boxO.keep (hk _ (h.sep.inj 2 7 (by decide) (by decide) (by decide)))
    boxS := h.boxS.keep (hk _ (h.sep.inj 3 7 (by decide) (by decide) (by decide)))
    boxC := h.boxC.keep (hk _ (h.sep.inj 4 7 (by decide) (by decide) (by decide)))
    boxN := h.boxN.keep (hk _ (h.sep.inj 5 7 (by decide) (by decide) (by decide)))
    boxG := h.boxG.keep (hk _ (h.sep.inj 6 7 (by decide) (by decide) (by decide)))
    arrI := (h.arrI.set (.int .i32 x)).congr (fun i _ => by by_cases e : i = v <;> simp [upd, e])
    arrL := h.arrL.keep (hk _ (h.sep.inj 8 7 (by decide) (by decide) (by decide)))
    arrO := h.arrO.keep (hk _ (h.sep.inj 9 7 (by decide) (by decide) (by decide)))
    arrM := h.arrM.keep (hk _ (h.sep.inj 10 7 (by decide) (by decide) (by decide)))
    ownS := owns_keep h.ownS (fun k hk' => hk k (h.sep.oS k hk' 7 (by decide)))
    ownK := owns_keep h.ownK (fun k hk' => hk k (h.sep.oK k hk' 7 (by decide)))
    ownZ := owns_keep h.ownZ (fun k hk' => hk k (h.sep.oZ k hk' 7 (by decide)))
    sep := h.sep }
theorem Rep.setLow (h : Rep E w0 w s vS vK vZ) (v x : Nat) : Rep E w0 (w.setCell ⟨E.gL, v, none⟩ (.int .i32 x)) { s with low := upd s.low v x } vS vK vZ := by
  have hk : ∀ k, k ≠ E.gL → (w.setCell ⟨E.gL, v, none⟩ (.int .i32 x)).heap[k]? = w.heap[k]? := fun k hk => Below.heap_setCell w _ _ k hk
  exact {
    below := h.below.setCell (h.sep.ge 8 (by decide)) _
    boxI := h.boxI.keep (hk _ (h.sep.inj 0 8 (by decide) (by decide) (by decide)))
    boxL := h.boxL.keep (hk _ (h.sep.inj 1 8 (by decide) (by decide) (by decide)))
    boxO := h.boxO.keep (hk _ (h.sep.inj 2 8 (by decide) (by decide) (by decide)))
    boxS := h.boxS.keep (hk _ (h.sep.inj 3 8 (by decide) (by decide) (by decide)))
    boxC := h.boxC.keep (hk _ (h.sep.inj 4 8 (by decide) (by decide) (by decide)))
    boxN := h.boxN.keep (hk _ (h.sep.inj 5 8 (by decide) (by decide) (by decide)))
    boxG := h.boxG.keep (hk _ (h.sep.inj 6 8 (by decide) (by decide) (by decide)))
    arrI := h.arrI.keep (hk _ (h.sep.inj 7 8 (by decide) (by decide) (by decide)))
    arrL := (h.arrL.set (.int .i32 x)).congr (fun i _ => by by_cases e : i = v <;> simp [upd, e])
    arrO := h.arrO.keep (hk _ (h.sep.inj 9 8 (by decide) (by decide) (by decide)))
    arrM := h.arrM.keep (hk _ (h.sep.inj 10 8 (by decide) (by decide) (by decide)))
    ownS := owns_keep h.ownS (fun k hk' => hk k (h.sep.oS k hk' 8 (by decide)))
    ownK := owns_keep h.ownK (fun k hk' => hk k (h.sep.oK k hk' 8 (by decide)))
    ownZ := owns_keep h.ownZ (fun k hk' => hk k (h.sep.oZ k hk' 8 (by decide)))
    sep := h.sep }
theorem Rep.setComp (h : Rep E w0 w s vS vK vZ) (v x : Nat) : Rep E w0 (w.setCell ⟨E.gM, v, none⟩ (.int .i32 x)) { s with comp := upd s.comp v x } vS vK vZ := by
  have hk : ∀ k, k ≠ E.gM → (w.setCell ⟨E.gM, v, none⟩ (.int .i32 x)).heap[k]? = w.heap[k]? := fun k hk => Below.heap_setCell w _ _ k hk
  exact {
    below := h.below.setCell (h.sep.ge 10 (by decide)) _
    boxI := h.boxI.keep (hk _ (h.sep.inj 0 10 (by decide) (by decide) (by decide)))
    boxL := h.boxL.keep (hk _ (h.sep.inj 1 10 (by decide) (by decide) (by decide)))
    boxO := h.boxO.keep (hk _ (h.sep.inj 2 10 (by decide) (by decide) (by decide)))
    boxS := h.boxS.keep (hk _ (h.sep.inj 3 10 (by decide) (by decide) (by decide)))
    boxC := h.boxC.keep (hk _ (h.sep.inj 4 10 (by decide) (by decide) (by decide)))
    boxN := h.boxN.keep (hk _ (h.sep.inj 5 10 (by decide) (by decide) (by decide)))
    boxG := h.boxG.keep (hk _ (h.sep.inj 6 10 (by decide) (by decide) (by decide)))
    arrI := h.arrI.keep (hk _ (h.sep.inj 7 10 (by decide) (by decide) (by decide)))
    arrL := h.arrL.keep (hk _ (h.sep.inj 8 10 (by decide) (by decide) (by decide)))
    arrO := h.arrO.keep (hk _ (h.sep.inj 9 10 (by decide) (by decide) (by decide)))
    arrM := (h.arrM.set (.int .i32 x)).congr (fun i _ => by by_cases e : i = v <;> simp [upd, e])
    ownS := owns_keep h.ownS (fun k hk' => hk k (h.sep.oS k hk' 10 (by decide)))
    ownK := owns_keep h.ownK (fun k hk' => hk k (h.sep.oK k hk' 10 (by decide)))
    ownZ := owns_keep h.ownZ (fun k hk' => hk k (h.sep.oZ k hk' 10 (by decide)))
    sep := h.sep }
theorem Rep.setOns (h : Rep E w0 w s vS vK vZ) (v : Nat) (x : Bool) : Rep E w0 (w.setCell ⟨E.gO, v, none⟩ (.bool x)) { s with ons := upd s.ons v x } vS vK vZ := by
  have hk : ∀ k, k ≠ E.gO → (w.setCell ⟨E.gO, v, none⟩ (.bool x)).heap[k]? = w.heap[k]? := fun k hk => Below.heap_setCell w _ _ k hk
  exact {
    below := h.below.setCell (h.sep.ge 9 (by decide)) _
    boxI := h.boxI.keep (hk _ (h.sep.inj 0 9 (by decide) (by decide) (by decide)))
    boxL := h.boxL.keep (hk _ (h.sep.inj 1 9 (by decide) (by decide) (by decide)))
    boxO := h.boxO.keep (hk _ (h.sep.inj 2 9 (by decide) (by decide) (by decide)))
    boxS := h.boxS.keep (hk _ (h.sep.inj 3 9 (by decide) (by decide) (by decide)))
    boxC := h.boxC.keep (hk _ (h.sep.inj 4 9 (by decide) (by decide) (by decide)))
    boxN := h.boxN.keep (hk _ (h.sep.inj 5 9 (by decide) (by decide) (by decide)))
    boxG := h.boxG.keep (hk _ (h.sep.inj 6 9 (by decide) (by decide) (by decide)))
    arrI := h.arrI.keep (hk _ (h.sep.inj 7 9 (by decide) (by decide) (by decide)))
    arrL := h.arrL.keep (hk _ (h.sep.inj 8 9 (by decide) (by decide) (by decide)))
    arrO := (h.arrO.set (.bool x)).congr (fun i _ => by by_cases e : i = v <;> simp [upd, e])
    arrM := h.arrM.keep (hk _ (h.sep.inj 10 9 (by decide) (by decide) (by decide)))
    ownS := owns_keep h.ownS (fun k hk' => hk k (h.sep.oS k hk' 9 (by decide)))
    ownK := owns_keep h.ownK (fun k hk' => hk k (h.sep.oK k hk' 9 (by decide)))
    ownZ := owns_keep h.ownZ (fun k hk' => hk k (h.sep.oZ k hk' 9 (by decide)))
    sep := h.sep }

theorem Sep.setS {B : Nat} {v' : Value} (h : Sep E B vS vK vZ) (e : v'.ownBlock = vS.ownBlock) : Sep E B v' vK vZ :=
  { inj := h.inj, ge := h.ge, oS := by rw [e]; exact h.oS, oK := h.oK, oZ := h.oZ, sk := by rw [e]; exact h.sk, sz := by rw [e]; exact h.sz, kz := h.kz }
theorem Sep.setK {B : Nat} {v' : Value} (h : Sep E B vS vK vZ) (e : v'.ownBlock = vK.ownBlock) : Sep E B vS v' vZ :=
  { inj := h.inj, ge := h.ge, oS := h.oS, oK := by rw [e]; exact h.oK, oZ := h.oZ, sk := by rw [e]; exact h.sk, sz := h.sz, kz := by rw [e]; exact h.kz }
theorem Sep.setZ {B : Nat} {v' : Value} (h : Sep E B vS vK vZ) (e : v'.ownBlock = vZ.ownBlock) : Sep E B vS vK v' :=
  { inj := h.inj, ge := h.ge, oS := h.oS, oK := h.oK, oZ := by rw [e]; exact h.oZ, sk := h.sk, sz := by rw [e]; exact h.sz, kz := by rw [e]; exact h.kz }

theorem Rep.lt {E : Ev} {w0 w : World} {s : St} {vS vK vZ : Value} (h : Rep E w0 w s vS vK vZ) : ∀ i, i < 11 → E.b i < w.heap.size := by
  intro i hi
  match i, hi with
  | 0, _ => exact h.boxI.lt
  | 1, _ => exact h.boxL.lt
  | 2, _ => exact h.boxO.lt
  | 3, _ => exact h.boxS.lt
  | 4, _ => exact h.boxC.lt
  | 5, _ => exact h.boxN.lt
  | 6, _ => exact h.boxG.lt
  | 7, _ => exact h.arrI.lt
  | 8, _ => exact h.arrL.lt
  | 9, _ => exact h.arrO.lt
  | 10, _ => exact h.arrM.lt

theorem Rep.drewN (h : Rep E w0 w s vS vK vZ) (q : Nat) : Rep E w0 (w.drewN q) s vS vK vZ :=
  { below := below_drewN h.below q
    boxI := h.boxI
    boxL := h.boxL
    boxO := h.boxO
    boxS := h.boxS
    boxC := h.boxC
    boxN := h.boxN
    boxG := h.boxG
    arrI := h.arrI
    arrL := h.arrL
    arrO := h.arrO
    arrM := h.arrM
    ownS := h.ownS
    ownK := h.ownK
    ownZ := h.ownZ
    sep := h.sep }
theorem Rep.drew (h : Rep E w0 w s vS vK vZ) : Rep E w0 w.drew s vS vK vZ := h.drewN 1
theorem Rep.alloc (h : Rep E w0 w s vS vK vZ) (o : Obj) : Rep E w0 (w.alloc o) s vS vK vZ := by
  have hk : ∀ i, i < 11 → (w.alloc o).heap[E.b i]? = w.heap[E.b i]? := fun i hi => Below.heap_alloc w o _ (h.lt i hi)
  have hoS : ∀ k, vS.ownBlock = some k → (w.alloc o).heap[k]? = w.heap[k]? := fun k hk' => Below.heap_alloc w o _ (h.ownS.lt k hk').2
  have hoK : ∀ k, vK.ownBlock = some k → (w.alloc o).heap[k]? = w.heap[k]? := fun k hk' => Below.heap_alloc w o _ (h.ownK.lt k hk').2
  have hoZ : ∀ k, vZ.ownBlock = some k → (w.alloc o).heap[k]? = w.heap[k]? := fun k hk' => Below.heap_alloc w o _ (h.ownZ.lt k hk').2
  exact {
    below := h.below.alloc h.below.size o
    boxI := h.boxI.keep (hk 0 (by decide))
    boxL := h.boxL.keep (hk 1 (by decide))
    boxO := h.boxO.keep (hk 2 (by decide))
    boxS := h.boxS.keep (hk 3 (by decide))
    boxC := h.boxC.keep (hk 4 (by decide))
    boxN := h.boxN.keep (hk 5 (by decide))
    boxG := h.boxG.keep (hk 6 (by decide))
    arrI := h.arrI.keep (hk 7 (by decide))
    arrL := h.arrL.keep (hk 8 (by decide))
    arrO := h.arrO.keep (hk 9 (by decide))
    arrM := h.arrM.keep (hk 10 (by decide))
    ownS := owns_keep h.ownS (fun k hk' => hoS k hk')
    ownK := owns_keep h.ownK (fun k hk' => hoK k hk')
    ownZ := owns_keep h.ownZ (fun k hk' => hoZ k hk')
    sep := h.sep }

theorem frames_cons (nxt : Nat → Nat) (v : Nat) (cs : List Nat) : frames nxt (v :: cs) = frames nxt cs ++ [Value.int .i32 (v : Int), Value.int .i32 (nxt v : Int)] := by
  simp [frames, List.flatMap_append]
theorem frames_length (nxt : Nat → Nat) : ∀ l : List Nat, (frames nxt l).length = l.length * 2
  | [] => rfl
  | v :: l => by rw [frames_cons, List.length_append, frames_length nxt l]; simp; omega
theorem frames_congr {nxt nxt' : Nat → Nat} : ∀ l : List Nat, (∀ x, x ∈ l → nxt' x = nxt x) → frames nxt' l = frames nxt l
  | [], _ => rfl
  | v :: l, h => by rw [frames_cons, frames_cons, frames_congr l (fun x hx => h x (List.mem_cons_of_mem _ hx)), h v List.mem_cons_self]
theorem frames_set (nxt : Nat → Nat) (v : Nat) (cs : List Nat) (x : Nat) (hv : v ∉ cs) : (frames nxt (v :: cs)).set (cs.length * 2 + 1) (.int .i32 (x : Int)) = frames (upd nxt v x) (v :: cs) := by
  rw [frames_cons, frames_cons, frames_congr (nxt := nxt) (nxt' := upd nxt v x) cs (fun y hy => upd_ne _ _ (fun e => hv (e ▸ hy))), upd_same, List.set_append_right _ _ (by rw [frames_length]; omega), frames_length]
  simp
theorem ints_length (l : List Nat) : (ints l).length = l.length := by simp [ints]

/-- One edge of the top frame has been looked at. -/
theorem Rep.look {g cap v : Nat} {cs : List Nat} (h : Rep E w0 w s vS (.slice (some ⟨g, 0, none⟩) (cs.length + 1) cap) vZ) (hc : s.calls = v :: cs) (hv : v ∉ cs) :
    Rep E w0 (w.setCell ⟨g, cs.length * 2 + 1, none⟩ (.int .i32 ((s.nxt v + 1 : Nat) : Int))) (Tj.look s v) vS (.slice (some ⟨g, 0, none⟩) (cs.length + 1) cap) vZ := by
  have hown := h.ownK
  rw [hc, List.length_cons] at hown
  have hst := (hown.stored (cs.length * 2 + 1) (.int .i32 ((s.nxt v + 1 : Nat) : Int))).1
  rw [frames_set _ _ _ _ hv] at hst
  have hk : ∀ i, i < 11 → (w.setCell ⟨g, cs.length * 2 + 1, none⟩ (.int .i32 ((s.nxt v + 1 : Nat) : Int))).heap[E.b i]? = w.heap[E.b i]? := fun i hi => Below.heap_setCell w _ _ _ (Ne.symm (h.sep.oK g rfl i hi))
  have hoS : ∀ k, vS.ownBlock = some k → (w.setCell ⟨g, cs.length * 2 + 1, none⟩ (.int .i32 ((s.nxt v + 1 : Nat) : Int))).heap[k]? = w.heap[k]? := fun k hk' => Below.heap_setCell w _ _ _ (fun e => h.sep.sk k hk' (by rw [e]; rfl))
  have hoZ : ∀ k, vZ.ownBlock = some k → (w.setCell ⟨g, cs.length * 2 + 1, none⟩ (.int .i32 ((s.nxt v + 1 : Nat) : Int))).heap[k]? = w.heap[k]? := fun k hk' => Below.heap_setCell w _ _ _ (fun e => h.sep.kz g rfl (by have e' : k = g := e; rw [← e']; exact hk'))
  exact {
    below := h.below.setCell (h.ownK.lt g rfl).1 _
    boxI := h.boxI.keep (hk 0 (by decide))
    boxL := h.boxL.keep (hk 1 (by decide))
    boxO := h.boxO.keep (hk 2 (by decide))
    boxS := h.boxS.keep (hk 3 (by decide))
    boxC := h.boxC.keep (hk 4 (by decide))
    boxN := h.boxN.keep (hk 5 (by decide))
    boxG := h.boxG.keep (hk 6 (by decide))
    arrI := h.arrI.keep (hk 7 (by decide))
    arrL := h.arrL.keep (hk 8 (by decide))
    arrO := h.arrO.keep (hk 9 (by decide))
    arrM := h.arrM.keep (hk 10 (by decide))
    ownS := owns_keep h.ownS (fun k hk' => hoS k hk')
    ownK := by simp only [Tj.look, hc, List.length_cons]; exact hst
    ownZ := owns_keep h.ownZ (fun k hk' => hoZ k hk')
    sep := h.sep }
theorem Rep.popCall0 (h : Rep E w0 w s vS vK vZ) {v' : Value} {cs : List Nat} (ho : w.ownsRow w0.heap.size 90 2 v' cs.length (frames s.nxt cs)) (e : v'.ownBlock = vK.ownBlock) : Rep E w0 (w.setCell ⟨E.bC, 0, none⟩ v') { s with calls := cs } vS v' vZ := by
  have hk : ∀ k, k ≠ E.bC → (w.setCell ⟨E.bC, 0, none⟩ v').heap[k]? = w.heap[k]? := fun k hk => Below.heap_setCell w _ _ k hk
  exact {
    below := h.below.setCell (h.sep.ge 4 (by decide)) _
    boxI := h.boxI.keep (hk _ (h.sep.inj 0 4 (by decide) (by decide) (by decide)))
    boxL := h.boxL.keep (hk _ (h.sep.inj 1 4 (by decide) (by decide) (by decide)))
    boxO := h.boxO.keep (hk _ (h.sep.inj 2 4 (by decide) (by decide) (by decide)))
    boxS := h.boxS.keep (hk _ (h.sep.inj 3 4 (by decide) (by decide) (by decide)))
    boxC := h.boxC.set _
    boxN := h.boxN.keep (hk _ (h.sep.inj 5 4 (by decide) (by decide) (by decide)))
    boxG := h.boxG.keep (hk _ (h.sep.inj 6 4 (by decide) (by decide) (by decide)))
    arrI := h.arrI.keep (hk _ (h.sep.inj 7 4 (by decide) (by decide) (by decide)))
    arrL := h.arrL.keep (hk _ (h.sep.inj 8 4 (by decide) (by decide) (by decide)))
    arrO := h.arrO.keep (hk _ (h.sep.inj 9 4 (by decide) (by decide) (by decide)))
    arrM := h.arrM.keep (hk _ (h.sep.inj 10 4 (by decide) (by decide) (by decide)))
    ownS := owns_keep h.ownS (fun k hk' => hk k (h.sep.oS k hk' 4 (by decide)))
    ownK := owns_keep ho (fun k hk' => hk k (h.sep.oK k (e ▸ hk') 4 (by decide)))
    ownZ := owns_keep h.ownZ (fun k hk' => hk k (h.sep.oZ k hk' 4 (by decide)))
    sep := h.sep.setK e }
theorem Rep.popCall {g cap v : Nat} {cs : List Nat} (h : Rep E w0 w s vS (.slice (some ⟨g, 0, none⟩) (cs.length + 1) cap) vZ) (hc : s.calls = v :: cs) :
    Rep E w0 (w.setCell ⟨E.bC, 0, none⟩ (.slice (some ⟨g, 0, none⟩) cs.length cap)) { s with calls := cs } vS (.slice (some ⟨g, 0, none⟩) cs.length cap) vZ := by
  have hown := h.ownK
  rw [hc, List.length_cons, frames_cons] at hown
  exact h.popCall0 (ownsRow_pop (frames_length _ _) hown) rfl
theorem Rep.popStk0 (h : Rep E w0 w s vS vK vZ) {v' : Value} {cs : List Nat} (ho : w.ownsRow w0.heap.size 21 1 v' cs.length (ints cs.reverse)) (e : v'.ownBlock = vS.ownBlock) : Rep E w0 (w.setCell ⟨E.bS, 0, none⟩ v') { s with stk := cs } v' vK vZ := by
  have hk : ∀ k, k ≠ E.bS → (w.setCell ⟨E.bS, 0, none⟩ v').heap[k]? = w.heap[k]? := fun k hk => Below.heap_setCell w _ _ k hk
  exact {
    below := h.below.setCell (h.sep.ge 3 (by decide)) _
    boxI := h.boxI.keep (hk _ (h.sep.inj 0 3 (by decide) (by decide) (by decide)))
    boxL := h.boxL.keep (hk _ (h.sep.inj 1 3 (by decide) (by decide) (by decide)))
    boxO := h.boxO.keep (hk _ (h.sep.inj 2 3 (by decide) (by decide) (by decide)))
    boxS := h.boxS.set _
    boxC := h.boxC.keep (hk _ (h.sep.inj 4 3 (by decide) (by decide) (by decide)))
    boxN := h.boxN.keep (hk _ (h.sep.inj 5 3 (by decide) (by decide) (by decide)))
    boxG := h.boxG.keep (hk _ (h.sep.inj 6 3 (by decide) (by decide) (by decide)))
    arrI := h.arrI.keep (hk _ (h.sep.inj 7 3 (by decide) (by decide) (by decide)))
    arrL := h.arrL.keep (hk _ (h.sep.inj 8 3 (by decide) (by decide) (by decide)))
    arrO := h.arrO.keep (hk _ (h.sep.inj 9 3 (by decide) (by decide) (by decide)))
    arrM := h.arrM.keep (hk _ (h.sep.inj 10 3 (by decide) (by decide) (by decide)))
    ownS := owns_keep ho (fun k hk' => hk k (h.sep.oS k (e ▸ hk') 3 (by decide)))
    ownK := owns_keep h.ownK (fun k hk' => hk k (h.sep.oK k hk' 3 (by decide)))
    ownZ := owns_keep h.ownZ (fun k hk' => hk k (h.sep.oZ k hk' 3 (by decide)))
    sep := h.sep.setS e }
theorem Rep.popStk {g cap v : Nat} {cs : List Nat} (h : Rep E w0 w s (.slice (some ⟨g, 0, none⟩) (cs.length + 1) cap) vK vZ) (hc : s.stk = v :: cs) :
    Rep E w0 (w.setCell ⟨E.bS, 0, none⟩ (.slice (some ⟨g, 0, none⟩) cs.length cap)) { s with stk := cs } (.slice (some ⟨g, 0, none⟩) cs.length cap) vK vZ := by
  have hown := h.ownS
  rw [hc, List.length_cons, List.reverse_cons, show ints (cs.reverse ++ [v]) = ints cs.reverse ++ [.int .i32 (v : Int)] from by simp [ints]] at hown
  exact h.popStk0 (ownsRow_pop (by rw [ints_length, List.length_reverse]; omega) hown) rfl
theorem Rep.pushStk {w1 : World} {g n' cap : Nat} (h : Rep E w0 w s vS vK vZ) (x : Nat) (hown : w1.ownsRow w0.heap.size 21 1 (.slice (some ⟨g, 0, none⟩) n' cap) n' (ints s.stk.reverse ++ [.int .i32 (x : Int)])) (hn : n' = s.stk.length + 1)
    (hg : w.grownBy w1 vS.ownBlock) (hat : vS.ownBlock = some g ∨ g = w.heap.size) : Rep E w0 (w1.setCell ⟨E.bS, 0, none⟩ (.slice (some ⟨g, 0, none⟩) n' cap)) { s with stk := x :: s.stk } (.slice (some ⟨g, 0, none⟩) n' cap) vK vZ := by
  have hne : ∀ i, i < 11 → g ≠ E.b i := by
    intro i hi e
    rcases hat with hat | hat
    · exact h.sep.oS g hat i hi e
    · have := h.lt i hi; omega
  have hk1 : ∀ i, i < 11 → w1.heap[E.b i]? = w.heap[E.b i]? := fun i hi => hg.block _ (h.lt i hi) (fun e => h.sep.oS _ e.symm i hi rfl)
  have hkK : ∀ k, vK.ownBlock = some k → w1.heap[k]? = w.heap[k]? := fun k hk' => hg.block k (h.ownK.lt k hk').2 (fun e => h.sep.sk k e.symm hk')
  have hgK : ∀ k, vK.ownBlock = some k → k ≠ g := by
    intro k hk' e
    rcases hat with hat | hat
    · exact (fun e : some k = vS.ownBlock => h.sep.sk k e.symm hk') (by rw [hat, e])
    · have := (h.ownK.lt k hk').2; omega
  have hkZ : ∀ k, vZ.ownBlock = some k → w1.heap[k]? = w.heap[k]? := fun k hk' => hg.block k (h.ownZ.lt k hk').2 (fun e => h.sep.sz k e.symm hk')
  have hgZ : ∀ k, vZ.ownBlock = some k → k ≠ g := by
    intro k hk' e
    rcases hat with hat | hat
    · exact (fun e : some k = vS.ownBlock => h.sep.sz k e.symm hk') (by rw [hat, e])
    · have := (h.ownZ.lt k hk').2; omega
  have hk : ∀ i, i < 11 → i ≠ 3 → (w1.setCell ⟨E.bS, 0, none⟩ (.slice (some ⟨g, 0, none⟩) n' cap)).heap[E.b i]? = w.heap[E.b i]? := fun i hi hi' => (Below.heap_setCell w1 _ _ _ (h.sep.inj i 3 hi (by decide) hi')).trans (hk1 i hi)
  exact {
    below := (h.below.grown hg h.below.size (fun k hk' => (h.ownS.lt k hk').1)).setCell (h.sep.ge 3 (by decide)) _
    boxI := h.boxI.keep (hk 0 (by decide) (by decide))
    boxL := h.boxL.keep (hk 1 (by decide) (by decide))
    boxO := h.boxO.keep (hk 2 (by decide) (by decide))
    boxS := (h.boxS.keep (hk1 3 (by decide))).set _
    boxC := h.boxC.keep (hk 4 (by decide) (by decide))
    boxN := h.boxN.keep (hk 5 (by decide) (by decide))
    boxG := h.boxG.keep (hk 6 (by decide) (by decide))
    arrI := h.arrI.keep (hk 7 (by decide) (by decide))
    arrL := h.arrL.keep (hk 8 (by decide) (by decide))
    arrO := h.arrO.keep (hk 9 (by decide) (by decide))
    arrM := h.arrM.keep (hk 10 (by decide) (by decide))
    ownS := by
      have e : (x :: s.stk).length = n' := by simp [hn]
      simp only [e]
      simp only [List.reverse_cons]; rw [show ints (s.stk.reverse ++ [x]) = ints s.stk.reverse ++ [.int .i32 (x : Int)] from by simp [ints]]; exact owns_keep hown (fun k hk' => by cases hk'; exact Below.heap_setCell w1 _ _ _ (hne 3 (by decide)))
    ownK := owns_keep h.ownK (fun k hk' => (Below.heap_setCell w1 _ _ _ (h.sep.oK k hk' 3 (by decide))).trans (hkK k hk'))
    ownZ := owns_keep h.ownZ (fun k hk' => (Below.heap_setCell w1 _ _ _ (h.sep.oZ k hk' 3 (by decide))).trans (hkZ k hk'))
    sep := { inj := h.sep.inj, ge := h.sep.ge, oS := fun k hk' i hi => by cases hk'; exact hne i hi, oK := h.sep.oK, oZ := h.sep.oZ, sk := fun k hk' e => by cases hk'; exact hgK g e rfl, sz := fun k hk' e => by cases hk'; exact hgZ g e rfl, kz := h.sep.kz } }
theorem Rep.pushCall {w1 : World} {g n' cap : Nat} (h : Rep E w0 w s vS vK vZ) (x : Nat) (hown : w1.ownsRow w0.heap.size 90 2 (.slice (some ⟨g, 0, none⟩) n' cap) n' (frames s.nxt s.calls ++ [.int .i32 (x : Int), .int .i32 (s.nxt x : Int)])) (hn : n' = s.calls.length + 1)
    (hg : w.grownBy w1 vK.ownBlock) (hat : vK.ownBlock = some g ∨ g = w.heap.size) : Rep E w0 (w1.setCell ⟨E.bC, 0, none⟩ (.slice (some ⟨g, 0, none⟩) n' cap)) { s with calls := x :: s.calls } vS (.slice (some ⟨g, 0, none⟩) n' cap) vZ := by
  have hne : ∀ i, i < 11 → g ≠ E.b i := by
    intro i hi e
    rcases hat with hat | hat
    · exact h.sep.oK g hat i hi e
    · have := h.lt i hi; omega
  have hk1 : ∀ i, i < 11 → w1.heap[E.b i]? = w.heap[E.b i]? := fun i hi => hg.block _ (h.lt i hi) (fun e => h.sep.oK _ e.symm i hi rfl)
  have hkS : ∀ k, vS.ownBlock = some k → w1.heap[k]? = w.heap[k]? := fun k hk' => hg.block k (h.ownS.lt k hk').2 (fun e => h.sep.sk k hk' e.symm)
  have hgS : ∀ k, vS.ownBlock = some k → k ≠ g := by
    intro k hk' e
    rcases hat with hat | hat
    · exact (fun e : some k = vK.ownBlock => h.sep.sk k hk' e.symm) (by rw [hat, e])
    · have := (h.ownS.lt k hk').2; omega
  have hkZ : ∀ k, vZ.ownBlock = some k → w1.heap[k]? = w.heap[k]? := fun k hk' => hg.block k (h.ownZ.lt k hk').2 (fun e => h.sep.kz k e.symm hk')
  have hgZ : ∀ k, vZ.ownBlock = some k → k ≠ g := by
    intro k hk' e
    rcases hat with hat | hat
    · exact (fun e : some k = vK.ownBlock => h.sep.kz k e.symm hk') (by rw [hat, e])
    · have := (h.ownZ.lt k hk').2; omega
  have hk : ∀ i, i < 11 → i ≠ 4 → (w1.setCell ⟨E.bC, 0, none⟩ (.slice (some ⟨g, 0, none⟩) n' cap)).heap[E.b i]? = w.heap[E.b i]? := fun i hi hi' => (Below.heap_setCell w1 _ _ _ (h.sep.inj i 4 hi (by decide) hi')).trans (hk1 i hi)
  exact {
    below := (h.below.grown hg h.below.size (fun k hk' => (h.ownK.lt k hk').1)).setCell (h.sep.ge 4 (by decide)) _
    boxI := h.boxI.keep (hk 0 (by decide) (by decide))
    boxL := h.boxL.keep (hk 1 (by decide) (by decide))
    boxO := h.boxO.keep (hk 2 (by decide) (by decide))
    boxS := h.boxS.keep (hk 3 (by decide) (by decide))
    boxC := (h.boxC.keep (hk1 4 (by decide))).set _
    boxN := h.boxN.keep (hk 5 (by decide) (by decide))
    boxG := h.boxG.keep (hk 6 (by decide) (by decide))
    arrI := h.arrI.keep (hk 7 (by decide) (by decide))
    arrL := h.arrL.keep (hk 8 (by decide) (by decide))
    arrO := h.arrO.keep (hk 9 (by decide) (by decide))
    arrM := h.arrM.keep (hk 10 (by decide) (by decide))
    ownS := owns_keep h.ownS (fun k hk' => (Below.heap_setCell w1 _ _ _ (h.sep.oS k hk' 4 (by decide))).trans (hkS k hk'))
    ownK := by
      have e : (x :: s.calls).length = n' := by simp [hn]
      simp only [e]
      simp only [frames_cons]; exact owns_keep hown (fun k hk' => by cases hk'; exact Below.heap_setCell w1 _ _ _ (hne 4 (by decide)))
    ownZ := owns_keep h.ownZ (fun k hk' => (Below.heap_setCell w1 _ _ _ (h.sep.oZ k hk' 4 (by decide))).trans (hkZ k hk'))
    sep := { inj := h.sep.inj, ge := h.sep.ge, oS := h.sep.oS, oK := fun k hk' i hi => by cases hk'; exact hne i hi, oZ := h.sep.oZ, sk := fun k hk' e => hgS k hk' (by cases e; rfl), sz := h.sep.sz, kz := fun k hk' e => by cases hk'; exact hgZ g e rfl } }
theorem Rep.pushSize {w1 : World} {g n' cap : Nat} (h : Rep E w0 w s vS vK vZ) (x : Nat) (hown : w1.ownsRow w0.heap.size 21 1 (.slice (some ⟨g, 0, none⟩) n' cap) n' (ints s.size ++ [.int .i32 (x : Int)])) (hn : n' = s.size.length + 1)
    (hg : w.grownBy w1 vZ.ownBlock) (hat : vZ.ownBlock = some g ∨ g = w.heap.size) : Rep E w0 (w1) { s with size := s.size ++ [x] } vS vK (.slice (some ⟨g, 0, none⟩) n' cap) := by
  have hne : ∀ i, i < 11 → g ≠ E.b i := by
    intro i hi e
    rcases hat with hat | hat
    · exact h.sep.oZ g hat i hi e
    · have := h.lt i hi; omega
  have hk1 : ∀ i, i < 11 → w1.heap[E.b i]? = w.heap[E.b i]? := fun i hi => hg.block _ (h.lt i hi) (fun e => h.sep.oZ _ e.symm i hi rfl)
  have hkS : ∀ k, vS.ownBlock = some k → w1.heap[k]? = w.heap[k]? := fun k hk' => hg.block k (h.ownS.lt k hk').2 (fun e => h.sep.sz k hk' e.symm)
  have hgS : ∀ k, vS.ownBlock = some k → k ≠ g := by
    intro k hk' e
    rcases hat with hat | hat
    · exact (fun e : some k = vZ.ownBlock => h.sep.sz k hk' e.symm) (by rw [hat, e])
    · have := (h.ownS.lt k hk').2; omega
  have hkK : ∀ k, vK.ownBlock = some k → w1.heap[k]? = w.heap[k]? := fun k hk' => hg.block k (h.ownK.lt k hk').2 (fun e => h.sep.kz k hk' e.symm)
  have hgK : ∀ k, vK.ownBlock = some k → k ≠ g := by
    intro k hk' e
    rcases hat with hat | hat
    · exact (fun e : some k = vZ.ownBlock => h.sep.kz k hk' e.symm) (by rw [hat, e])
    · have := (h.ownK.lt k hk').2; omega
  exact {
    below := (h.below.grown hg h.below.size (fun k hk' => (h.ownZ.lt k hk').1))
    boxI := h.boxI.keep (hk1 0 (by decide))
    boxL := h.boxL.keep (hk1 1 (by decide))
    boxO := h.boxO.keep (hk1 2 (by decide))
    boxS := h.boxS.keep (hk1 3 (by decide))
    boxC := h.boxC.keep (hk1 4 (by decide))
    boxN := h.boxN.keep (hk1 5 (by decide))
    boxG := h.boxG.keep (hk1 6 (by decide))
    arrI := h.arrI.keep (hk1 7 (by decide))
    arrL := h.arrL.keep (hk1 8 (by decide))
    arrO := h.arrO.keep (hk1 9 (by decide))
    arrM := h.arrM.keep (hk1 10 (by decide))
    ownS := owns_keep h.ownS (fun k hk' => hkS k hk')
    ownK := owns_keep h.ownK (fun k hk' => hkK k hk')
    ownZ := by
      have e : (s.size ++ [x]).length = n' := by simp [hn]
      simp only [e]
      rw [show ints (s.size ++ [x]) = ints s.size ++ [.int .i32 (x : Int)] from by simp [ints]]; exact hown
    sep := { inj := h.sep.inj, ge := h.sep.ge, oS := h.sep.oS, oK := h.sep.oK, oZ := fun k hk' i hi => by cases hk'; exact hne i hi, sk := h.sep.sk, sz := fun k hk' e => hgS k hk' (by cases e; rfl), kz := fun k hk' e => hgK k hk' (by cases e; rfl) } }
end
end Go.Proofs.Qxb6001346a
