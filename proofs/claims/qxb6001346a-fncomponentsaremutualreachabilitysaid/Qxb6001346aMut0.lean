/-
  THE LAW 'components are mutual reachability': what its loops share.
-/
import Derived.Test.Qxb6001346aPost
import Derived.Test.Qxb6001346aBfs
import Derived.Deep.LoopGhost
import Derived.Deep.Cut
import Derived.Deep.OwnRows
set_option linter.all false
namespace Go.Proofs.Qxb6001346a
open Go.RowKit Tj

/-- The body of the loop that is block 'id'. -/
def loopIn (id : Nat) : Code → Option Code
  | .block k c => if k == id then (match c with | .loop b => some b | _ => none) else loopIn id c
  | .seq a b => match loopIn id a with
    | some c => some c
    | none => loopIn id b
  | .loop c => loopIn id c
  | .scope c => loopIn id c
  | .cond _ a b => match loopIn id a with
    | some c => some c
    | none => loopIn id b
  | _ => none

/-- The graph in memory, as the law's clones hold it. -/
structure MG (w4 : World) (g : Gr) (n m bs os : Nat) (a1 a2 : Option Addr) (mask : Int) : Prop where
  n_le : n ≤ 4096
  m_le : m ≤ 4096
  gn : g.n = n
  wf : g.Wf m
  zero : g.st 0 = 0
  bs_lt : bs < w4.heap.size
  start : ∀ i, i < n + 1 → w4.cell? ⟨bs, os + i, none⟩ = some (.int .i32 ((g.st i : Nat) : Int))
  tgts : 0 < m → ∃ bt ot, a1 = some ⟨bt, ot, none⟩ ∧ bt < w4.heap.size ∧ ∀ e, e < m → w4.cell? ⟨bt, ot + e, none⟩ = some (.int .i32 ((g.to e : Nat) : Int))
  kinds : 0 < m → ∃ bk ok', a2 = some ⟨bk, ok', none⟩ ∧ bk < w4.heap.size ∧ ∀ e, e < m → ∃ x : Int, w4.cell? ⟨bk, ok' + e, none⟩ = some (.int .u8 x) ∧ g.ok e = !(bits .and .u8 x mask == 0)

section
variable {w4 wr : World} {g : Gr} {n m bs os : Nat} {a1 a2 : Option Addr} {mask : Int}
theorem MG.startAt (G : MG w4 g n m bs os a1 a2 mask) (hb : Below w4.heap.size w4 wr) {i : Nat} (hi : i < n + 1) : wr.cell? ⟨bs, os + i, none⟩ = some (.int .i32 ((g.st i : Nat) : Int)) :=
  (hb.cell (p := ⟨bs, os + i, none⟩) G.bs_lt).trans (G.start i hi)
theorem MG.st_le (G : MG w4 g n m bs os a1 a2 mask) {i : Nat} (hi : i < n + 1) : g.st i ≤ m := G.wf.st_le (by rw [G.gn]; omega)
theorem MG.mono (G : MG w4 g n m bs os a1 a2 mask) {i : Nat} (hi : i < n) : g.st i ≤ g.st (i + 1) := G.wf.mono i (by rw [G.gn]; exact hi)
theorem MG.to_lt (G : MG w4 g n m bs os a1 a2 mask) {e : Nat} (he : e < m) : g.to e < n := by rw [← G.gn]; exact G.wf.tgt e he
end

/-- How many edges before k lead to node j - 1. -/
def R1 (g : Gr) (k j : Nat) : Nat := if j = 0 then 0 else cin g (j - 1) k
theorem R1_zero (g : Gr) (j : Nat) : R1 g 0 j = 0 := by unfold R1; split <;> rfl
theorem R1_miss {g : Gr} {k : Nat} (ho : g.ok k = false) (j : Nat) : R1 g (k + 1) j = R1 g k j := by
  unfold R1
  split
  · rfl
  · exact cin_miss ho
theorem R1_hit {g : Gr} {k : Nat} (ho : g.ok k = true) (j : Nat) : R1 g (k + 1) j = upd (R1 g k) (g.to k + 1) (R1 g k (g.to k + 1) + 1) j := by
  by_cases e : j = g.to k + 1
  · subst e
    rw [upd_same]
    have h0 : ¬ g.to k + 1 = 0 := by omega
    simp only [R1, if_neg h0, Nat.add_sub_cancel]
    exact cin_hit ho
  · rw [upd_ne _ _ e]
    unfold R1
    by_cases hj : j = 0
    · rw [if_pos hj, if_pos hj]
    · rw [if_neg hj, if_neg hj]
      exact cin_other ho (by omega)
theorem cin_le_k (g : Gr) (v k : Nat) : cin g v k ≤ k := cntTo_le _ _
theorem R1_le (g : Gr) (k j : Nat) : R1 g k j ≤ k := by
  unfold R1
  split
  · omega
  · exact cin_le_k _ _ _
/-- The sums so far. -/
def R2 (g : Gr) (m v j : Nat) : Nat := if j ≤ v then pre g m j else cin g (j - 1) m
theorem R2_zero (g : Gr) (m j : Nat) : R2 g m 0 j = R1 g m j := by
  unfold R2 R1
  by_cases hj : j = 0
  · subst hj; simp [pre, sumTo]
  · rw [if_neg (by omega), if_neg hj]
theorem R2_step (g : Gr) (m v j : Nat) : R2 g m (v + 1) j = upd (R2 g m v) (v + 1) (R2 g m v (v + 1) + R2 g m v v) j := by
  by_cases e : j = v + 1
  · subst e
    rw [upd_same]
    unfold R2
    rw [if_pos (Nat.le_refl _), if_neg (by omega), if_pos (Nat.le_refl _), pre_succ, Nat.add_sub_cancel]
    omega
  · rw [upd_ne _ _ e]
    unfold R2
    by_cases h : j ≤ v
    · rw [if_pos h, if_pos (by omega)]
    · rw [if_neg h, if_neg (by omega)]
theorem R2_le (g : Gr) (m v j : Nat) : R2 g m v j ≤ m := by
  unfold R2
  split
  · exact pre_le_m g m j
  · exact cin_le_k _ _ _
theorem R2_done (g : Gr) (m n j : Nat) (h : j ≤ n) : R2 g m n j = pre g m j := by unfold R2; rw [if_pos h]

def i64 (f : Nat → Nat) : Nat → Value := fun j => .int .i64 ((f j : Nat) : Int)
def bools (f : Nat → Bool) : Nat → Value := fun j => .bool (f j)
theorem Row.setI {w : World} {r : Nat} {n : Nat} {f : Nat → Nat} (h : Row w r 3 n (i64 f)) (i x : Nat) : Row (w.setCell ⟨r, i, none⟩ (.int .i64 (x : Int))) r 3 n (i64 (upd f i x)) := by
  refine (h.set (i := i) (.int .i64 (x : Int))).congr (fun j _ => ?_)
  by_cases e : j = i
  · subst e; simp [i64, upd]
  · simp [i64, upd, e]
theorem Row.setB {w : World} {r : Nat} {n : Nat} {f : Nat → Bool} (h : Row w r 4 n (bools f)) (i : Nat) (x : Bool) : Row (w.setCell ⟨r, i, none⟩ (.bool x)) r 4 n (bools (upd f i x)) := by
  refine (h.set (i := i) (.bool x)).congr (fun j _ => ?_)
  by_cases e : j = i
  · subst e; simp [bools, upd]
  · simp [bools, upd, e]

/-- The rows that the search uses: rstart, rfrom, fwd, bwd, queue. -/
structure WS (w4 wr : World) (n p gR gF gA gB gQ : Nat) (rs rf : Nat → Nat) (mA mB : Nat → Bool) (q : Nat → Nat) : Prop where
  below : Below w4.heap.size w4 wr
  rR : Row wr gR 3 (n + 1) (i64 rs)
  rF : Row wr gF 3 p (i64 rf)
  rA : Row wr gA 4 n (bools mA)
  rB : Row wr gB 4 n (bools mB)
  rQ : Row wr gQ 3 n (i64 q)
  o1 : w4.heap.size ≤ gR
  o2 : gR < gF
  o3 : gF < gA
  o4 : gA < gB
  o5 : gB < gQ
section
variable {w4 wr : World} {n p gR gF gA gB gQ : Nat} {rs rf : Nat → Nat} {mA mB : Nat → Bool} {q : Nat → Nat}
theorem WS.setA (h : WS w4 wr n p gR gF gA gB gQ rs rf mA mB q) (i : Nat) (x : Bool) : WS w4 (wr.setCell ⟨gA, i, none⟩ (.bool x)) n p gR gF gA gB gQ rs rf (upd mA i x) mB q := by
  have := h.o1; have := h.o2; have := h.o3; have := h.o4; have := h.o5
  exact { below := h.below.setCell (by show w4.heap.size ≤ gA; omega) _, rR := h.rR.other _ (by show gR ≠ gA; omega), rF := h.rF.other _ (by show gF ≠ gA; omega), rA := h.rA.setB i x, rB := h.rB.other _ (by show gB ≠ gA; omega), rQ := h.rQ.other _ (by show gQ ≠ gA; omega), o1 := h.o1, o2 := h.o2, o3 := h.o3, o4 := h.o4, o5 := h.o5 }
theorem WS.setB (h : WS w4 wr n p gR gF gA gB gQ rs rf mA mB q) (i : Nat) (x : Bool) : WS w4 (wr.setCell ⟨gB, i, none⟩ (.bool x)) n p gR gF gA gB gQ rs rf mA (upd mB i x) q := by
  have := h.o1; have := h.o2; have := h.o3; have := h.o4; have := h.o5
  exact { below := h.below.setCell (by show w4.heap.size ≤ gB; omega) _, rR := h.rR.other _ (by show gR ≠ gB; omega), rF := h.rF.other _ (by show gF ≠ gB; omega), rA := h.rA.other _ (by show gA ≠ gB; omega), rB := h.rB.setB i x, rQ := h.rQ.other _ (by show gQ ≠ gB; omega), o1 := h.o1, o2 := h.o2, o3 := h.o3, o4 := h.o4, o5 := h.o5 }
theorem WS.setQ (h : WS w4 wr n p gR gF gA gB gQ rs rf mA mB q) (i x : Nat) : WS w4 (wr.setCell ⟨gQ, i, none⟩ (.int .i64 (x : Int))) n p gR gF gA gB gQ rs rf mA mB (upd q i x) := by
  have := h.o1; have := h.o2; have := h.o3; have := h.o4; have := h.o5
  exact { below := h.below.setCell (by show w4.heap.size ≤ gQ; omega) _, rR := h.rR.other _ (by show gR ≠ gQ; omega), rF := h.rF.other _ (by show gF ≠ gQ; omega), rA := h.rA.other _ (by show gA ≠ gQ; omega), rB := h.rB.other _ (by show gB ≠ gQ; omega), rQ := h.rQ.setI i x, o1 := h.o1, o2 := h.o2, o3 := h.o3, o4 := h.o4, o5 := h.o5 }
theorem WS.drewN (h : WS w4 wr n p gR gF gA gB gQ rs rf mA mB q) (k : Nat) : WS w4 (wr.drewN k) n p gR gF gA gB gQ rs rf mA mB q :=
  { below := h.below.trans ⟨rfl, rfl, rfl, Nat.le_refl _, fun _ _ => rfl⟩, rR := h.rR, rF := h.rF, rA := h.rA, rB := h.rB, rQ := h.rQ, o1 := h.o1, o2 := h.o2, o3 := h.o3, o4 := h.o4, o5 := h.o5 }
theorem WS.congrA (h : WS w4 wr n p gR gF gA gB gQ rs rf mA mB q) {mA' : Nat → Bool} (e : ∀ x, x < n → mA' x = mA x) : WS w4 wr n p gR gF gA gB gQ rs rf mA' mB q :=
  { h with rA := h.rA.congr (fun i hi => by simp [bools, e i hi]) }
theorem WS.congrB (h : WS w4 wr n p gR gF gA gB gQ rs rf mA mB q) {mB' : Nat → Bool} (e : ∀ x, x < n → mB' x = mB x) : WS w4 wr n p gR gF gA gB gQ rs rf mA mB' q :=
  { h with rB := h.rB.congr (fun i hi => by simp [bools, e i hi]) }
end
end Go.Proofs.Qxb6001346a
