/-
  components: Tarjan's search.
-/
import Derived.Test.Qxb6001346aVisit
import Derived.Test.Qxb6001346aSteps
import Derived.Deep.LoopGhost
import Derived.Deep.OwnRows
import Derived.Deep.CutRange
import Derived.Deep.DeepCutAuto
import Derived.Deep.CutBlock
set_option linter.all false
namespace Go.Proofs.Qxb6001346a
open Go.RowKit Tj
attribute [local go_sem ↓] Go.wp_at_zero Go.wp_at_succ

theorem Try.info4 : (Try.prog.info? 4).map (fun i => (i.zero, i.size, i.bytes)) = some (some (.bool false), 1, 1) := by kernel_rfl

/-- The graph in memory. -/
structure GW (w : World) (gg n m bs os cs : Nat) (at' : Option Addr) (ct : Nat) (ak : Option Addr) (ck : Nat) (g : Gr) (kd : Nat → Int) (mask : Int) : Prop where
  n_eq : g.n = n
  n_le : n ≤ 4096
  m_le : m ≤ 4096
  wf : g.Wf m
  gg_lt : gg < w.heap.size
  bs_lt : bs < w.heap.size
  c0 : w.cell? ⟨gg, 0, none⟩ = some (.slice (some ⟨bs, os, none⟩) (n + 1) cs)
  c1 : w.cell? ⟨gg, 1, none⟩ = some (.slice at' m ct)
  c2 : w.cell? ⟨gg, 2, none⟩ = some (.slice ak m ck)
  start : ∀ i, i < n + 1 → w.cell? ⟨bs, os + i, none⟩ = some (.int .i32 ((g.st i : Nat) : Int))
  tgts : SIn w .i32 at' m (fun e => ((g.to e : Nat) : Int))
  kinds : SIn w .u8 ak m kd
  ok : ∀ e, e < m → g.ok e = !(bits .and .u8 (kd e) mask == 0)


/-- The body of the first loop of a text. -/
def firstLoop : Code → Option Code
  | .loop c => some c
  | .seq a b => match firstLoop a with
    | some c => some c
    | none => firstLoop b
  | .block _ c => firstLoop c
  | .scope c => firstLoop c
  | .cond _ a b => match firstLoop a with
    | some c => some c
    | none => firstLoop b
  | _ => none

theorem owns_zero {w : World} {base : Nat} {e : TypeId} {size : Nat} {v : Value} {xs : List Value} (h : w.ownsRow base e size v 0 xs) : ∃ a c, v = .slice a 0 c := by
  rcases h.2 with ⟨rfl, _⟩ | ⟨g, cap, cur, rfl, _⟩
  · exact ⟨_, _, rfl⟩
  · exact ⟨_, _, rfl⟩
theorem hide' {p : Prop} (h : p) : Hid p := h
/-- The top frame's two cells. -/
theorem Rep.frame {E : Ev} {w0 w : World} {s : St} {vS vZ : Value} {g cap v : Nat} {cs : List Nat} (h : Rep E w0 w s vS (.slice (some ⟨g, 0, none⟩) (cs.length + 1) cap) vZ) (hc : s.calls = v :: cs) :
    w.cell? ⟨g, cs.length * 2, none⟩ = some (.int .i32 (v : Int)) ∧ w.cell? ⟨g, cs.length * 2 + 1, none⟩ = some (.int .i32 (s.nxt v : Int)) ∧ w.frozen? ⟨g, cs.length * 2 + 1, none⟩ = false := by
  have ho := h.ownK
  rw [hc, List.length_cons] at ho
  refine ⟨?_, ?_, ho.frozenAt _⟩
  · rw [ho.cellAt (cs.length * 2) (by omega), frames_cons, List.getElem?_append_right (by rw [frames_length]; omega), frames_length]
    simp
  · rw [ho.cellAt (cs.length * 2 + 1) (by omega), frames_cons, List.getElem?_append_right (by rw [frames_length]; omega), frames_length]
    simp

/-- The state while a component is taken off the stack: the nodes of A are off, l is left. -/
def pops (s : St) (A l : List Nat) : St := { s with stk := l, ons := fun u => if u ∈ A then false else s.ons u, comp := fun u => if u ∈ A then s.size.length else s.comp u }
theorem pops_step (s : St) (A r : List Nat) (x : Nat) (l : List Nat) :
    { pops s A l with stk := r, ons := upd (pops s A l).ons x false, comp := upd (pops s A l).comp x s.size.length } = pops s (A ++ [x]) r := by
  have e1 : upd (fun u => if u ∈ A then false else s.ons u) x false = fun u => if u ∈ A ++ [x] then false else s.ons u := by
    funext u
    by_cases e : u = x
    · subst e; simp [upd]
    · simp [upd, e]
  have e2 : upd (fun u => if u ∈ A then s.size.length else s.comp u) x s.size.length = fun u => if u ∈ A ++ [x] then s.size.length else s.comp u := by
    funext u
    by_cases e : u = x
    · subst e; simp [upd]
    · simp [upd, e]
  simp only [pops, e1, e2]
theorem pops_nil (s : St) : pops s [] s.stk = s := by simp [pops]
theorem Rep.top {E : Ev} {w0 w : World} {s : St} {vK vZ : Value} {g cap x : Nat} {r : List Nat} (h : Rep E w0 w s (.slice (some ⟨g, 0, none⟩) (r.length + 1) cap) vK vZ) (hc : s.stk = x :: r) :
    w.cell? ⟨g, r.length, none⟩ = some (.int .i32 (x : Int)) := by
  have ho := h.ownS
  rw [hc, List.length_cons] at ho
  rw [ho.cellAt r.length (by omega)]
  simp [ints]
theorem owns_cap {w : World} {base : Nat} {e : TypeId} {size g n cap : Nat} {xs : List Value} (h : w.ownsRow base e size (.slice (some ⟨g, 0, none⟩) n cap) n xs) : n ≤ cap ∧ cap ≤ maxLen := by
  rcases h.2 with ⟨h', _⟩ | ⟨g', cap', cur, h', _, _, h1, h2, _⟩
  · cases h'
  · cases h'; exact ⟨h1, h2⟩

theorem owns_shape {w : World} {base : Nat} {e : TypeId} {size : Nat} {v : Value} {n : Nat} {xs : List Value} (h : w.ownsRow base e size v n xs) : ∃ a c, v = .slice a n c := by
  rcases h.2 with ⟨rfl, rfl⟩ | ⟨g, cap, cur, rfl, _⟩
  · exact ⟨_, _, rfl⟩
  · exact ⟨_, _, rfl⟩

theorem take_eq {s : St} {v n : Nat} {cs C rest : List Nat} (hc : s.calls = v :: cs) (hn : n = C.length) : { pops { s with calls := cs } C rest with size := s.size ++ [n] } = Tj.take s C rest := by
  subst hn
  simp [pops, Tj.take, hc]

set_option maxRecDepth 1000000 in
set_option maxHeartbeats 4000000 in
theorem inner_loop {w wr0 : World} {E : Ev} {m bs os cs : Nat} {at' : Option Addr} {ct : Nat} {ak : Option Addr} {ck : Nat} {g : Gr} {kd : Nat → Int} {mask : Int} (G : GW w E.gg E.n m bs os cs at' ct ak ck g kd mask) (i : Nat) (vZ0 c3 c23 c24 c25 c26 c27 c28 c29 c30 c31 c32 c33 c34 c35 c36 c37 c38 c39 c40 c41 c42 c43 c44 c45 c46 c47 c201 c202 : Value) (Q0 : Exit → Act → World → Prop)
    (hexit : ∀ wr s vS vK vZ, Rep E w wr s vS vK vZ → Inv g s → s.calls = [] → (∀ u, u ≤ i → s.idx u ≠ 0) → ∀ c15 c16 c17 c18 c19 c20 c21 c22 c48 c49 c50 c51 c52 c53 c54 c55 c56 c57 c58 c59 c60 c61 c62 c63 c64 c65 c66 c67 c68 c69 c70 c71 c72 c73 c74 c75 c76 c77 c78 c79 c80 c81 c82 c83 c84 c85 c86 c87 c88 c89 c90 c91 c92 c93 c94 c95 c96 c97 c98 c99 c100 c101 c102 c103 c104 c105 c106 c107 c108 c109 c110 c111 c112 c113 c114 c115 c116 c117 c118 c119 c120 c121 c122 c123 c124 c125 c126 c127 c128 c129 c130 c131 c132 c133 c134 c135 c136 c137 c138 c139 c140 c141 c142 c143 c144 c145 c146 c147 c148 c149 c150 c151 c152 c153 c154 c155 c156 c157 c158 c159 c160 c161 c162 c163 c164 c165 c166 c167 c168 c169 c170 c171 c172 c173 c174 c175 c176 c177 c178 c179 c180 c181 c182 c183 c184 c185 c186 c187 c188 c189 c190 c191 c192 c193 c194 c195 c196 c197 c198 c199 c200 : Value, Q0 (.exit 2) ⟨(List.toArray ((.pointer (some ⟨E.gg, 0, none⟩)) :: (.int .u8 mask) :: (.pointer (some ⟨E.bG, 0, none⟩)) :: c3 :: (.slice (some ⟨E.gM, 0, none⟩) E.n E.n) :: vZ :: (.int .i64 (E.n : Int)) :: (.pointer (some ⟨E.bI, 0, none⟩)) :: (.pointer (some ⟨E.bL, 0, none⟩)) :: (.pointer (some ⟨E.bO, 0, none⟩)) :: (.pointer (some ⟨E.bS, 0, none⟩)) :: (.pointer (some ⟨E.bC, 0, none⟩)) :: (.pointer (some ⟨E.bN, 0, none⟩)) :: (.func (.func 43) #[] #[.pointer (some ⟨E.bN, 0, none⟩), .pointer (some ⟨E.bI, 0, none⟩), .pointer (some ⟨E.bL, 0, none⟩), .pointer (some ⟨E.bS, 0, none⟩), .pointer (some ⟨E.bO, 0, none⟩), .pointer (some ⟨E.bC, 0, none⟩), .pointer (some ⟨E.bG, 0, none⟩)]) :: (.int .i32 (i : Int)) :: c15 :: c16 :: c17 :: c18 :: c19 :: c20 :: c21 :: c22 :: c23 :: c24 :: c25 :: c26 :: c27 :: c28 :: c29 :: c30 :: c31 :: c32 :: c33 :: c34 :: c35 :: c36 :: c37 :: c38 :: c39 :: c40 :: c41 :: c42 :: c43 :: c44 :: c45 :: c46 :: c47 :: c48 :: c49 :: c50 :: c51 :: c52 :: c53 :: c54 :: c55 :: c56 :: c57 :: c58 :: c59 :: c60 :: c61 :: c62 :: c63 :: c64 :: c65 :: c66 :: c67 :: c68 :: c69 :: c70 :: c71 :: c72 :: c73 :: c74 :: c75 :: c76 :: c77 :: c78 :: c79 :: c80 :: c81 :: c82 :: c83 :: c84 :: c85 :: c86 :: c87 :: c88 :: c89 :: c90 :: c91 :: c92 :: c93 :: c94 :: c95 :: c96 :: c97 :: c98 :: c99 :: c100 :: c101 :: c102 :: c103 :: c104 :: c105 :: c106 :: c107 :: c108 :: c109 :: c110 :: c111 :: c112 :: c113 :: c114 :: c115 :: c116 :: c117 :: c118 :: c119 :: c120 :: c121 :: c122 :: c123 :: c124 :: c125 :: c126 :: c127 :: c128 :: c129 :: c130 :: c131 :: c132 :: c133 :: c134 :: c135 :: c136 :: c137 :: c138 :: c139 :: c140 :: c141 :: c142 :: c143 :: c144 :: c145 :: c146 :: c147 :: c148 :: c149 :: c150 :: c151 :: c152 :: c153 :: c154 :: c155 :: c156 :: c157 :: c158 :: c159 :: c160 :: c161 :: c162 :: c163 :: c164 :: c165 :: c166 :: c167 :: c168 :: c169 :: c170 :: c171 :: c172 :: c173 :: c174 :: c175 :: c176 :: c177 :: c178 :: c179 :: c180 :: c181 :: c182 :: c183 :: c184 :: c185 :: c186 :: c187 :: c188 :: c189 :: c190 :: c191 :: c192 :: c193 :: c194 :: c195 :: c196 :: c197 :: c198 :: c199 :: c200 :: c201 :: c202 :: [])), []⟩ wr)
    (s0 : St) (vS0 vK0 : Value) (h0 : Rep E w wr0 s0 vS0 vK0 vZ0) (hi0 : Inv g s0) (hv0 : ∀ u, u ≤ i → s0.idx u ≠ 0) (c15 c16 c17 c18 c19 c20 c21 c22 c48 c49 c50 c51 c52 c53 c54 c55 c56 c57 c58 c59 c60 c61 c62 c63 c64 c65 c66 c67 c68 c69 c70 c71 c72 c73 c74 c75 c76 c77 c78 c79 c80 c81 c82 c83 c84 c85 c86 c87 c88 c89 c90 c91 c92 c93 c94 c95 c96 c97 c98 c99 c100 c101 c102 c103 c104 c105 c106 c107 c108 c109 c110 c111 c112 c113 c114 c115 c116 c117 c118 c119 c120 c121 c122 c123 c124 c125 c126 c127 c128 c129 c130 c131 c132 c133 c134 c135 c136 c137 c138 c139 c140 c141 c142 c143 c144 c145 c146 c147 c148 c149 c150 c151 c152 c153 c154 c155 c156 c157 c158 c159 c160 c161 c162 c163 c164 c165 c166 c167 c168 c169 c170 c171 c172 c173 c174 c175 c176 c177 c178 c179 c180 c181 c182 c183 c184 c185 c186 c187 c188 c189 c190 c191 c192 c193 c194 c195 c196 c197 c198 c199 c200 : Value) :
    Code.wp Try.prog (Code.loop ((((Try.f37.body.bind firstLoop).getD .skip |> firstLoop)).getD .skip)) Q0 ⟨(List.toArray ((.pointer (some ⟨E.gg, 0, none⟩)) :: (.int .u8 mask) :: (.pointer (some ⟨E.bG, 0, none⟩)) :: c3 :: (.slice (some ⟨E.gM, 0, none⟩) E.n E.n) :: vZ0 :: (.int .i64 (E.n : Int)) :: (.pointer (some ⟨E.bI, 0, none⟩)) :: (.pointer (some ⟨E.bL, 0, none⟩)) :: (.pointer (some ⟨E.bO, 0, none⟩)) :: (.pointer (some ⟨E.bS, 0, none⟩)) :: (.pointer (some ⟨E.bC, 0, none⟩)) :: (.pointer (some ⟨E.bN, 0, none⟩)) :: (.func (.func 43) #[] #[.pointer (some ⟨E.bN, 0, none⟩), .pointer (some ⟨E.bI, 0, none⟩), .pointer (some ⟨E.bL, 0, none⟩), .pointer (some ⟨E.bS, 0, none⟩), .pointer (some ⟨E.bO, 0, none⟩), .pointer (some ⟨E.bC, 0, none⟩), .pointer (some ⟨E.bG, 0, none⟩)]) :: (.int .i32 (i : Int)) :: c15 :: c16 :: c17 :: c18 :: c19 :: c20 :: c21 :: c22 :: c23 :: c24 :: c25 :: c26 :: c27 :: c28 :: c29 :: c30 :: c31 :: c32 :: c33 :: c34 :: c35 :: c36 :: c37 :: c38 :: c39 :: c40 :: c41 :: c42 :: c43 :: c44 :: c45 :: c46 :: c47 :: c48 :: c49 :: c50 :: c51 :: c52 :: c53 :: c54 :: c55 :: c56 :: c57 :: c58 :: c59 :: c60 :: c61 :: c62 :: c63 :: c64 :: c65 :: c66 :: c67 :: c68 :: c69 :: c70 :: c71 :: c72 :: c73 :: c74 :: c75 :: c76 :: c77 :: c78 :: c79 :: c80 :: c81 :: c82 :: c83 :: c84 :: c85 :: c86 :: c87 :: c88 :: c89 :: c90 :: c91 :: c92 :: c93 :: c94 :: c95 :: c96 :: c97 :: c98 :: c99 :: c100 :: c101 :: c102 :: c103 :: c104 :: c105 :: c106 :: c107 :: c108 :: c109 :: c110 :: c111 :: c112 :: c113 :: c114 :: c115 :: c116 :: c117 :: c118 :: c119 :: c120 :: c121 :: c122 :: c123 :: c124 :: c125 :: c126 :: c127 :: c128 :: c129 :: c130 :: c131 :: c132 :: c133 :: c134 :: c135 :: c136 :: c137 :: c138 :: c139 :: c140 :: c141 :: c142 :: c143 :: c144 :: c145 :: c146 :: c147 :: c148 :: c149 :: c150 :: c151 :: c152 :: c153 :: c154 :: c155 :: c156 :: c157 :: c158 :: c159 :: c160 :: c161 :: c162 :: c163 :: c164 :: c165 :: c166 :: c167 :: c168 :: c169 :: c170 :: c171 :: c172 :: c173 :: c174 :: c175 :: c176 :: c177 :: c178 :: c179 :: c180 :: c181 :: c182 :: c183 :: c184 :: c185 :: c186 :: c187 :: c188 :: c189 :: c190 :: c191 :: c192 :: c193 :: c194 :: c195 :: c196 :: c197 :: c198 :: c199 :: c200 :: c201 :: c202 :: [])), []⟩ wr0 := by
  conv => arg 2; arg 1; whnf
  go_loopg [5] (mu g s0) (fun k z wr => ∃ s vS vK, Rep E w wr s vS vK z ∧ Inv g s ∧ (∀ u, u ≤ i → s.idx u ≠ 0) ∧ k = mu g s)
  case atStart => exact ⟨s0, vS0, vK0, h0, hi0, hv0, rfl⟩
  case round =>
    obtain ⟨s, vS, vK, h, hi, hv, hmu⟩ := hrel
    have HM : Hid (gk = mu g s) := hmu
    have HV : Hid (∀ u, u ≤ i → s.idx u ≠ 0) := hv
    have HE := hide' hexit
    clear hmu hv h0 hi0 hv0 hexit
    cases hcs : s.calls with
    | nil =>
      obtain ⟨a, c, rfl⟩ := owns_zero (by have := h.ownK; rw [hcs] at this; exact this)
      have cC := h.boxC.cell
      have HC : Hid (s.calls = []) := hcs
      clear hcs
      go_wp2_with fail
      exact HE.out _ s _ _ _ h hi HC.out HV.out _ _ _ _ _ _ _ _ _ _ _ _ _ _ _ _ _ _ _ _ _ _ _ _ _ _ _ _ _ _ _ _ _ _ _ _ _ _ _ _ _ _ _ _ _ _ _ _ _ _ _ _ _ _ _ _ _ _ _ _ _ _ _ _ _ _ _ _ _ _ _ _ _ _ _ _ _ _ _ _ _ _ _ _ _ _ _ _ _ _ _ _ _ _ _ _ _ _ _ _ _ _ _ _ _ _ _ _ _ _ _ _ _ _ _ _ _ _ _ _ _ _ _ _ _ _ _ _ _ _ _ _ _ _ _ _ _ _ _ _ _ _ _ _ _ _ _ _ _ _ _ _ _ _ _ _ _ _ _ _ _
    | cons v cs' =>
      have hlen : s.calls.length = cs'.length + 1 := by rw [hcs]; rfl
      obtain ⟨gK, cap, hvK, hgK1, hgK2⟩ := h.ownK.form (by omega)
      rw [hlen] at hvK
      subst hvK
      have HC : Hid (s.calls = v :: cs') := hcs
      obtain ⟨hcap, hcapm⟩ := owns_cap (by have := h.ownK; rw [hlen] at this; exact this)
      unfold maxLen at hcapm
      have hnn := G.n_le
      have hcl : cs'.length + 1 ≤ 4096 := by have := hi.calls_len; have := G.n_eq; omega
      have hvn : v < E.n := by rw [← G.n_eq]; exact hi.stk_lt (hi.calls_stk v (by rw [hcs]; exact List.mem_cons_self))
      obtain ⟨k0, k1, fk⟩ := h.frame hcs
      have cC := h.boxC.cell
      have cG := h.boxG.cell
      have gg0 := (h.below.cell (p := ⟨E.gg, 0, none⟩) G.gg_lt).trans G.c0
      have st1 := (h.below.cell (p := ⟨bs, os + (v + 1), none⟩) G.bs_lt).trans (G.start (v + 1) (by omega))
      have hst1 : g.st (v + 1) ≤ 4096 := Nat.le_trans (G.wf.st_le (by rw [G.n_eq]; omega)) G.m_le
      have hnx : s.nxt v ≤ 4096 := Nat.le_trans (hi.nxt_le v (by rw [G.n_eq]; exact hvn)) hst1
      have q1 : (0 : Int) ≤ (v : Int) + 1 := by omega
      have q2 : (v : Int) + 1 < (E.n : Int) + 1 := by omega
      clear hcs hlen
      by_cases hlt : s.nxt v < g.st (v + 1)
      · go_upto_region 17 with fail
        go_quiet (fail)
        go_upto_region 20 with fail
        have hnv : v ∉ cs' := fun hm => by have := hi.top HC.out v hm; omega
        have h2 := (h.drewN nq).look HC.out hnv
        rw [show ((s.nxt v + 1 : Nat) : Int) = (s.nxt v : Int) + 1 from by omega] at h2
        clear k0 k1 fk cC cG gg0 st1 hnv
        generalize ((wr.drewN nq).setCell ⟨gK, cs'.length * 2 + 1, none⟩ (.int .i32 ((s.nxt v : Int) + 1))) = w2 at h2 ⊢
        have hem : s.nxt v < m := G.wf.edge_lt (by rw [G.n_eq]; exact hvn) hlt
        obtain ⟨bt, ot, rfl, hbt, ctt⟩ := G.tgts (by omega)
        obtain ⟨bk, ok', rfl, hbk, ckk⟩ := G.kinds (by omega)
        obtain ⟨e, he⟩ : ∃ e, e = s.nxt v := ⟨_, rfl⟩
        have HEe : Hid (e = s.nxt v) := he
        rw [← he] at hlt hem hnx ⊢
        obtain ⟨t, ht⟩ : ∃ t, t = g.to e := ⟨_, rfl⟩
        have HT : Hid (t = g.to e) := ht
        have htn : t < E.n := by rw [ht, ← G.n_eq]; exact G.wf.tgt e hem
        have cG2 := h2.boxG.cell
        have gg1 := (h2.below.cell (p := ⟨E.gg, 1, none⟩) G.gg_lt).trans G.c1
        have gg2 := (h2.below.cell (p := ⟨E.gg, 2, none⟩) G.gg_lt).trans G.c2
        have tc : w2.cell? ⟨bt, ot + e, none⟩ = some (.int .i32 (t : Int)) := by rw [ht]; exact (h2.below.cell (p := ⟨bt, ot + e, none⟩) hbt).trans (ctt e hem)
        have kc := (h2.below.cell (p := ⟨bk, ok' + e, none⟩) hbk).trans (ckk e hem)
        have hok := G.ok e hem
        have q3 : (e : Int) < (m : Int) := by omega
        clear he ht ctt ckk q1 q2
        cases tb : (bits .and .u8 (kd e) mask == 0) with
        | true =>
          have OK : Hid (g.ok e = false) := by rw [tb] at hok; exact hok
          clear hok
          go_wp2_with fail
          obtain ⟨n1, n2, n3⟩ := Tj.step_skip hi HC.out (by rw [G.n_eq]; exact hvn) (by rw [← HEe.out]; exact hlt) (by rw [← HEe.out]; exact OK.out)
          go_roundg (mu g (Tj.look s v))
          case measure => rw [HM.out]; exact n2
          case rel => exact ⟨_, _, _, h2, n1, fun u hu => n3 u (HV.out u hu), rfl⟩
        | false =>
          have OK : Hid (g.ok e = true) := by rw [tb] at hok; exact hok
          clear hok
          have cI := h2.boxI.cell
          have aI : w2.cell? ⟨E.gI, t, none⟩ = some (.int .i32 (s.idx t : Int)) := h2.arrI.cell htn
          have hlt' : s.nxt v < g.st (v + 1) := by rw [← HEe.out]; exact hlt
          have hvg : v < g.n := by rw [G.n_eq]; exact hvn
          by_cases hz : s.idx t = 0
          · have tz : ((s.idx t : Int) == 0) = true := by rw [hz]; rfl
            have hcnt : s.count < 4096 := by have := hi.count_lt hz (by rw [G.n_eq]; exact htn); have := G.n_eq; omega
            have hls : s.stk.length ≤ 4096 := by have := hi.sum; omega
            have hlk : s.calls.length ≤ 4096 := by have := hi.calls_len; have := G.n_eq; omega
            have hnx2 : Hid ((Tj.look s v).nxt t = g.st t) := Tj.step_visit_nxt hi HC.out hz
            have NX : Tj.Next g s (Tj.visit (Tj.look s v) t) := by
              rw [HT.out, HEe.out]
              exact Tj.step_visit hi HC.out hvg hlt' (by rw [← HEe.out]; exact OK.out) (by rw [← HEe.out, ← HT.out, G.n_eq]; exact htn) (by rw [← HEe.out, ← HT.out]; exact hz)
            clear hz
            go_wp2_with (go_at_call 43; refine (visit_any E w w2 (Tj.look s v) vS _ u5 h2 t htn hnn hcnt hls hlk bs os cs (g.st t) G.gg_lt G.bs_lt G.c0 (G.start t (by omega)) hnx2.out).mono ?_)
            rintro e' w3 ⟨rfl, vS3, vK3, h3⟩
            go_wp2_with fail
            go_roundg (mu g (Tj.visit (Tj.look s v) t))
            case measure => rw [HM.out]; exact NX.2.1
            case rel => exact ⟨_, _, _, h3, NX.1, fun u hu => NX.2.2 u (HV.out u hu), rfl⟩
          · have tz : ((s.idx t : Int) == 0) = false := by rw [beq_eq_false_iff_ne]; omega
            have HZ : Hid (s.idx (g.to (s.nxt v)) ≠ 0) := show s.idx (g.to (s.nxt v)) ≠ 0 by rw [← HEe.out, ← HT.out]; exact hz
            have cO := h2.boxO.cell
            have aO : w2.cell? ⟨E.gO, t, none⟩ = some (.bool (s.ons t)) := h2.arrO.cell htn
            have cL := h2.boxL.cell
            have aL : w2.cell? ⟨E.gL, v, none⟩ = some (.int .i32 (s.low v : Int)) := h2.arrL.cell hvn
            have q4 : (0 : Int) ≤ (t : Int) := by omega
            have q5 : (t : Int) < (E.n : Int) := by omega
            have q6 : (0 : Int) ≤ (v : Int) := by omega
            have q7 : (v : Int) < (E.n : Int) := by omega
            clear hz
            cases hons : s.ons t with
            | false =>
              have NX : Tj.Next g s (Tj.look s v) := Tj.step_pass hi HC.out hvg hlt' HZ.out (fun ho => by rw [← HEe.out, ← HT.out, hons] at ho; cases ho)
              go_upto_region 24 with fail
              go_quiet (fail)
              go_wp2_with fail
              go_roundg (mu g (Tj.look s v))
              case measure => rw [HM.out]; exact NX.2.1
              case rel => exact ⟨_, _, _, h2.drewN _, NX.1, fun u hu => NX.2.2 u (HV.out u hu), rfl⟩
            | true =>
              by_cases hlow : s.idx t < s.low v
              · have NX : Tj.Next g s (Tj.setLow (Tj.look s v) v (s.idx t)) := by
                  have h1 := HT.out
                  have h2' := HEe.out
                  subst h1
                  rw [h2']
                  exact Tj.step_low hi HC.out hvg hlt' (by rw [← h2']; exact OK.out) HZ.out (by rw [← h2']; exact hons) (by rw [← h2']; exact hlow)
                have hlow' : (s.idx t : Int) < (s.low v : Int) := by omega
                have fL := h2.arrL.free v
                go_upto_region 24 with fail
                go_quiet (fail)
                go_wp2_with fail
                go_region
                go_wp2_with fail
                go_roundg (mu g (Tj.setLow (Tj.look s v) v (s.idx t)))
                case measure => rw [HM.out]; exact NX.2.1
                case rel => exact ⟨_, _, _, (h2.drewN _).setLow v (s.idx t), NX.1, fun u hu => NX.2.2 u (HV.out u hu), rfl⟩
              · have hlow' : decide ((s.idx t : Int) < (s.low v : Int)) = false := by simpa using hlow
                have NX : Tj.Next g s (Tj.look s v) := Tj.step_pass hi HC.out hvg hlt' HZ.out (fun _ => by rw [← HEe.out, ← HT.out]; omega)
                go_upto_region 24 with fail
                go_quiet (fail)
                go_wp2_with fail
                go_roundg (mu g (Tj.look s v))
                case measure => rw [HM.out]; exact NX.2.1
                case rel => exact ⟨_, _, _, h2.drewN _, NX.1, fun u hu => NX.2.2 u (HV.out u hu), rfl⟩
      · obtain ⟨aZ, cZ, hzz⟩ := owns_shape h.ownZ
        have hzl : s.size.length ≤ 4096 := by have := hi.size_len; have := G.n_eq; omega
        subst hzz
        go_upto_region 17 with fail
        have hlt' : ¬ (s.nxt v : Int) < (g.st (v + 1) : Int) := by omega
        have hltd : decide ((s.nxt v : Int) < (g.st (v + 1) : Int)) = false := by simpa using hlt
        go_quiet (fail)
        have fC := h.boxC.free
        go_upto_region 27 with fail
        have h2 := (h.drewN nq).popCall HC.out
        have hvg : v < g.n := by rw [G.n_eq]; exact hvn
        clear k0 k1 fk cC cG gg0 st1 fC hlt' hltd q1 q2 h
        generalize ((wr.drewN nq).setCell ⟨E.bC, 0, none⟩ (.slice (some ⟨gK, 0, none⟩) cs'.length cap)) = w2 at h2 ⊢
        have cC2 := h2.boxC.cell
        have cI := h2.boxI.cell
        have cL := h2.boxL.cell
        have aI : w2.cell? ⟨E.gI, v, none⟩ = some (.int .i32 (s.idx v : Int)) := h2.arrI.cell hvn
        have aL : w2.cell? ⟨E.gL, v, none⟩ = some (.int .i32 (s.low v : Int)) := h2.arrL.cell hvn
        have q6 : (0 : Int) ≤ (v : Int) := by omega
        have q7 : (v : Int) < (E.n : Int) := by omega
        cases cs' with
        | nil =>
          have hl : s.low v = s.idx v := Classical.byContradiction fun hl => Tj.has_below hi HC.out hl rfl
          have HL : Hid (s.low v = s.idx v) := hl
          have tl : ((s.low v : Int) != (s.idx v : Int)) = false := by rw [hl]; simp
          clear hl
          simp only [List.length_nil] at cC2 h2 ⊢
          go_upto_region 31 with fail
          go_quiet (fail)
          go_upto_region 32 with fail
          have h3 := h2.drewN nq
          obtain ⟨pre, rest, hst, hvp⟩ := Tj.split_stk hi HC.out
          have NX : Hid (Tj.Next g s (Tj.take s (pre ++ [v]) rest)) := Tj.step_take hi HC.out hlt hvg HL.out hst
          have HS : Hid (s.stk = pre ++ v :: rest) := hst
          have HP : Hid (v ∉ pre) := hvp
          have hpl : pre.length + 1 + rest.length ≤ 4096 := by have := hi.stk_len; rw [hst, List.length_append, List.length_cons] at this; have := G.n_eq; omega
          have HN : Hid (∀ x, x ∈ pre → x < E.n) := fun x hx => by rw [← G.n_eq]; exact hi.stk_lt (by rw [hst]; exact List.mem_append_left _ hx)
          clear hst hvp cC2 cI cL aI aL tl
          generalize w2.drewN nq = w3 at h3 ⊢
          go_wp2_with fail
          go_loopg [21, 22] (pre.length + 1) (fun k mb _ wx => ∃ A B vS', pre = A ++ B ∧ k = B.length + 1 ∧ mb = .int .i32 (A.length : Int) ∧ Rep E w wx (pops { s with calls := [] } A (B ++ v :: rest)) vS' (.slice (some ⟨gK, 0, none⟩) (0) cap) (.slice aZ s.size.length cZ))
          case atStart =>
            refine ⟨[], pre, vS, rfl, rfl, rfl, ?_⟩
            have e := HS.out
            have h5 := h3
            rw [← pops_nil { s with calls := [] }] at h5
            simp only [e] at h5
            exact h5
          case round =>
            obtain ⟨A, B, vS', hpre, hk, rfl, h4⟩ := hrel
            have HPR : Hid (pre = A ++ B) := hpre
            have HKK : Hid (gk = B.length + 1) := hk
            have hAB : A.length + B.length = pre.length := by rw [hpre, List.length_append]
            clear hpre hk h3 h2
            cases B with
            | nil =>
              obtain ⟨gS, capS, hvS, hgS1, hgS2⟩ := h4.ownS.form (by simp [pops])
              simp only [List.nil_append, List.cons_append] at h4 hvS
              have e9 : (pops { s with calls := [] } A (v :: rest)).stk.length = (rest).length + 1 := rfl
              rw [e9] at hvS
              subst hvS
              have hxn : v < E.n := hvn
              obtain ⟨hcS, hcSm⟩ := owns_cap (by have := h4.ownS; rw [e9] at this; exact this)
              have hrl : (rest).length ≤ 4096 := by have h77 := hpl; have h78 := hAB; (try simp only [List.length_append, List.length_cons, List.length_nil] at h78 ⊢); omega
              unfold maxLen at hcSm
              have cS := h4.boxS.cell
              have fS := h4.boxS.free
              have tp := h4.top (x := v) (r := rest) rfl
              have h5 := h4.popStk (v := v) (cs := rest) rfl
              have HR : Hid (∃ r, r = (rest).length) := ⟨_, rfl⟩
              obtain ⟨r, hr⟩ := HR
              rw [← hr] at cS hcS tp hrl h5
              clear hr h4
              go_upto_region 35 with fail
              clear cS fS tp
              generalize (wr.setCell ⟨E.bS, 0, none⟩ (.slice (some ⟨gS, 0, none⟩) r capS)) = w5 at h5 ⊢
              have cO := h5.boxO.cell
              obtain ⟨bx, aO⟩ : ∃ bx, w5.cell? ⟨E.gO, v, none⟩ = some (.bool bx) := ⟨_, h5.arrO.cell hxn⟩
              have fO := h5.arrO.free v
              go_upto_region 36 with fail
              have h6 := h5.setOns v false
              clear cO aO fO h5
              generalize w5.setCell ⟨E.gO, v, none⟩ (.bool false) = w6 at h6 ⊢
              obtain ⟨nx, aM⟩ : ∃ nx : Int, w6.cell? ⟨E.gM, v, none⟩ = some (.int .i32 nx) := ⟨_, h6.arrM.cell hxn⟩
              have fM := h6.arrM.free v
              go_upto_region 37 with fail
              have h7 := h6.setComp v s.size.length
              clear aM fM h6
              generalize w6.setCell ⟨E.gM, v, none⟩ (.int .i32 (s.size.length : Int)) = w7 at h7 ⊢
              have h8 : Rep E w w7 (pops { s with calls := [] } (A ++ [v]) (rest)) (.slice (some ⟨gS, 0, none⟩) r capS) (.slice (some ⟨gK, 0, none⟩) (0) cap) (.slice aZ s.size.length cZ) := by rw [← pops_step _ _ _ _ (v :: rest)]; exact h7
              clear h7
              have txv : ((v : Int) == (v : Int)) = true := by simp
              obtain ⟨i0, hi0, hz0, hz1, hz2⟩ := info_parts Try.info21
              have hown : (w7.alloc (.cells #[.int .i32 ((A.length : Int) + 1)] 21)).ownsRow w.heap.size 21 1 (.slice aZ s.size.length cZ) s.size.length (ints s.size) := (h8.alloc _).ownZ
              have hsz7 : w.heap.size ≤ w7.heap.size := h8.below.size
              go_wp2_with (at_builtin; refine wpList_append_lies _ rfl (.tmp 197) (.tmp 199) 22 rfl w.heap.size 21 i0 (.int .i32 0) 1 4 Try.underlying22 hi0 hz0 hz1 hz2 rfl (by decide) (.slice aZ s.size.length cZ) s.size.length (ints s.size) rfl hown ⟨w7.heap.size, 0, none⟩ 1 1 [.int .i32 ((A.length : Int) + 1)] rfl rfl (cell_one_new _ _ _) (by intro u hu; simp at hu; subst hu; rfl) (by decide) (by unfold maxLen; omega) (by omega) (by simp; omega) (w7.heap.size + 1) (by simp) ?_)
              intro g9 cap9 w9 hown9 hgrow9 hat9 hlt9
              have hown9' : w9.ownsRow w.heap.size 21 1 (.slice (some ⟨g9, 0, none⟩) (s.size.length + 1) cap9) (s.size.length + 1) (ints s.size ++ [.int .i32 ((A.length + 1 : Nat) : Int)]) := hown9
              have h9 := (h8.alloc (.cells #[.int .i32 ((A.length : Int) + 1)] 21)).pushSize (A.length + 1) hown9' rfl hgrow9 (by simpa using hat9)
              have hpa : pre = A := by have := HPR.out; simpa using this
              have h10 : Rep E w w9 (Tj.take s (pre ++ [v]) rest) (.slice (some ⟨gS, 0, none⟩) r capS) (.slice (some ⟨gK, 0, none⟩) (0) cap) (.slice (some ⟨g9, 0, none⟩) (s.size.length + 1) cap9) := by rw [← take_eq HC.out (n := A.length + 1) (by rw [hpa]; simp), hpa]; exact h9
              clear hown hown9 hown9' hgrow9 hat9 hlt9 hi0 hz0 hz1 hz2 h9 h8
              go_wp2_with fail
              go_roundg (mu g (Tj.take s (pre ++ [v]) rest))
              case measure => rw [HM.out]; exact NX.out.2.1
              case rel => exact ⟨_, _, _, h10, NX.out.1, fun u hu => NX.out.2.2 u (HV.out u hu), rfl⟩
            | cons b B' =>
              obtain ⟨gS, capS, hvS, hgS1, hgS2⟩ := h4.ownS.form (by simp [pops])
              simp only [List.nil_append, List.cons_append] at h4 hvS
              have e9 : (pops { s with calls := [] } A (b :: (B' ++ v :: rest))).stk.length = (B' ++ v :: rest).length + 1 := rfl
              rw [e9] at hvS
              subst hvS
              have hxn : b < E.n := HN.out b (by rw [HPR.out]; simp)
              obtain ⟨hcS, hcSm⟩ := owns_cap (by have := h4.ownS; rw [e9] at this; exact this)
              have hrl : (B' ++ v :: rest).length ≤ 4096 := by have h77 := hpl; have h78 := hAB; (try simp only [List.length_append, List.length_cons, List.length_nil] at h78 ⊢); omega
              unfold maxLen at hcSm
              have cS := h4.boxS.cell
              have fS := h4.boxS.free
              have tp := h4.top (x := b) (r := B' ++ v :: rest) rfl
              have h5 := h4.popStk (v := b) (cs := B' ++ v :: rest) rfl
              have HR : Hid (∃ r, r = (B' ++ v :: rest).length) := ⟨_, rfl⟩
              obtain ⟨r, hr⟩ := HR
              rw [← hr] at cS hcS tp hrl h5
              clear hr h4
              go_upto_region 35 with fail
              clear cS fS tp
              generalize (wr.setCell ⟨E.bS, 0, none⟩ (.slice (some ⟨gS, 0, none⟩) r capS)) = w5 at h5 ⊢
              have cO := h5.boxO.cell
              obtain ⟨bx, aO⟩ : ∃ bx, w5.cell? ⟨E.gO, b, none⟩ = some (.bool bx) := ⟨_, h5.arrO.cell hxn⟩
              have fO := h5.arrO.free b
              go_upto_region 36 with fail
              have h6 := h5.setOns b false
              clear cO aO fO h5
              generalize w5.setCell ⟨E.gO, b, none⟩ (.bool false) = w6 at h6 ⊢
              obtain ⟨nx, aM⟩ : ∃ nx : Int, w6.cell? ⟨E.gM, b, none⟩ = some (.int .i32 nx) := ⟨_, h6.arrM.cell hxn⟩
              have fM := h6.arrM.free b
              go_upto_region 37 with fail
              have h7 := h6.setComp b s.size.length
              clear aM fM h6
              generalize w6.setCell ⟨E.gM, b, none⟩ (.int .i32 (s.size.length : Int)) = w7 at h7 ⊢
              have h8 : Rep E w w7 (pops { s with calls := [] } (A ++ [b]) (B' ++ v :: rest)) (.slice (some ⟨gS, 0, none⟩) r capS) (.slice (some ⟨gK, 0, none⟩) (0) cap) (.slice aZ s.size.length cZ) := by rw [← pops_step _ _ _ _ (b :: (B' ++ v :: rest))]; exact h7
              clear h7
              have hbv : b ≠ v := fun e => HP.out (by rw [HPR.out, ← e]; simp)
              have txv : ((b : Int) == (v : Int)) = false := by rw [beq_eq_false_iff_ne]; omega
              go_wp2_with fail
              go_roundg (B'.length + 1)
              case measure => rw [HKK.out]; simp
              case rel => exact ⟨A ++ [b], B', _, by rw [HPR.out]; simp, rfl, by simp, h8⟩
        | cons p cs2 =>
          simp only [List.length_cons] at cC2 h2 hcap hcl ⊢
          obtain ⟨k0, _, _⟩ := h2.frame (v := p) (cs := cs2) rfl
          have hpn : p < E.n := by rw [← G.n_eq]; exact hi.stk_lt (hi.calls_stk p (by rw [HC.out]; exact List.mem_cons_of_mem _ List.mem_cons_self))
          have aP : w2.cell? ⟨E.gL, p, none⟩ = some (.int .i32 (s.low p : Int)) := h2.arrL.cell hpn
          have q8 : (0 : Int) ≤ (p : Int) := by omega
          have q9 : (p : Int) < (E.n : Int) := by omega
          by_cases hl : s.low v = s.idx v
          · have HL : Hid (s.low v = s.idx v) := hl
            have hnl0 : ¬ (s.low v : Int) < (s.low p : Int) := by have := Tj.not_lowered hi HC.out hl; omega
            have hnl : decide ((s.low v : Int) < (s.low p : Int)) = false := by simpa using hnl0
            have tl : ((s.low v : Int) != (s.idx v : Int)) = false := by rw [hl]; simp
            clear hl
            go_upto_region 29 with fail
            go_quiet (fail)
            obtain ⟨nqa, hnqa⟩ : ∃ x, x = nq := ⟨_, rfl⟩
            subst hnqa
            go_upto_region 31 with fail
            go_quiet (fail)
            go_upto_region 32 with fail
            have h3 := h2.drewN (nqa + nq)
            obtain ⟨pre, rest, hst, hvp⟩ := Tj.split_stk hi HC.out
            have NX : Hid (Tj.Next g s (Tj.take s (pre ++ [v]) rest)) := Tj.step_take hi HC.out hlt hvg HL.out hst
            have HS : Hid (s.stk = pre ++ v :: rest) := hst
            have HP : Hid (v ∉ pre) := hvp
            have hpl : pre.length + 1 + rest.length ≤ 4096 := by have := hi.stk_len; rw [hst, List.length_append, List.length_cons] at this; have := G.n_eq; omega
            have HN : Hid (∀ x, x ∈ pre → x < E.n) := fun x hx => by rw [← G.n_eq]; exact hi.stk_lt (by rw [hst]; exact List.mem_append_left _ hx)
            clear hst hvp cC2 cI cL aI aL tl k0 aP hnl hnl0
            go_wp2_with fail
            go_loopg [21, 22] (pre.length + 1) (fun k mb _ wx => ∃ A B vS', pre = A ++ B ∧ k = B.length + 1 ∧ mb = .int .i32 (A.length : Int) ∧ Rep E w wx (pops { s with calls := p :: cs2 } A (B ++ v :: rest)) vS' (.slice (some ⟨gK, 0, none⟩) (cs2.length + 1) cap) (.slice aZ s.size.length cZ))
            case atStart =>
              refine ⟨[], pre, vS, rfl, rfl, rfl, ?_⟩
              have e := HS.out
              have h5 := h3
              rw [← pops_nil { s with calls := p :: cs2 }] at h5
              simp only [e] at h5
              exact h5
            case round =>
              obtain ⟨A, B, vS', hpre, hk, rfl, h4⟩ := hrel
              have HPR : Hid (pre = A ++ B) := hpre
              have HKK : Hid (gk = B.length + 1) := hk
              have hAB : A.length + B.length = pre.length := by rw [hpre, List.length_append]
              clear hpre hk h3 h2
              cases B with
              | nil =>
                obtain ⟨gS, capS, hvS, hgS1, hgS2⟩ := h4.ownS.form (by simp [pops])
                simp only [List.nil_append, List.cons_append] at h4 hvS
                have e9 : (pops { s with calls := p :: cs2 } A (v :: rest)).stk.length = (rest).length + 1 := rfl
                rw [e9] at hvS
                subst hvS
                have hxn : v < E.n := hvn
                obtain ⟨hcS, hcSm⟩ := owns_cap (by have := h4.ownS; rw [e9] at this; exact this)
                have hrl : (rest).length ≤ 4096 := by have h77 := hpl; have h78 := hAB; (try simp only [List.length_append, List.length_cons, List.length_nil] at h78 ⊢); omega
                unfold maxLen at hcSm
                have cS := h4.boxS.cell
                have fS := h4.boxS.free
                have tp := h4.top (x := v) (r := rest) rfl
                have h5 := h4.popStk (v := v) (cs := rest) rfl
                have HR : Hid (∃ r, r = (rest).length) := ⟨_, rfl⟩
                obtain ⟨r, hr⟩ := HR
                rw [← hr] at cS hcS tp hrl h5
                clear hr h4
                go_upto_region 35 with fail
                clear cS fS tp
                generalize (wr.setCell ⟨E.bS, 0, none⟩ (.slice (some ⟨gS, 0, none⟩) r capS)) = w5 at h5 ⊢
                have cO := h5.boxO.cell
                obtain ⟨bx, aO⟩ : ∃ bx, w5.cell? ⟨E.gO, v, none⟩ = some (.bool bx) := ⟨_, h5.arrO.cell hxn⟩
                have fO := h5.arrO.free v
                go_upto_region 36 with fail
                have h6 := h5.setOns v false
                clear cO aO fO h5
                generalize w5.setCell ⟨E.gO, v, none⟩ (.bool false) = w6 at h6 ⊢
                obtain ⟨nx, aM⟩ : ∃ nx : Int, w6.cell? ⟨E.gM, v, none⟩ = some (.int .i32 nx) := ⟨_, h6.arrM.cell hxn⟩
                have fM := h6.arrM.free v
                go_upto_region 37 with fail
                have h7 := h6.setComp v s.size.length
                clear aM fM h6
                generalize w6.setCell ⟨E.gM, v, none⟩ (.int .i32 (s.size.length : Int)) = w7 at h7 ⊢
                have h8 : Rep E w w7 (pops { s with calls := p :: cs2 } (A ++ [v]) (rest)) (.slice (some ⟨gS, 0, none⟩) r capS) (.slice (some ⟨gK, 0, none⟩) (cs2.length + 1) cap) (.slice aZ s.size.length cZ) := by rw [← pops_step _ _ _ _ (v :: rest)]; exact h7
                clear h7
                have txv : ((v : Int) == (v : Int)) = true := by simp
                obtain ⟨i0, hi0, hz0, hz1, hz2⟩ := info_parts Try.info21
                have hown : (w7.alloc (.cells #[.int .i32 ((A.length : Int) + 1)] 21)).ownsRow w.heap.size 21 1 (.slice aZ s.size.length cZ) s.size.length (ints s.size) := (h8.alloc _).ownZ
                have hsz7 : w.heap.size ≤ w7.heap.size := h8.below.size
                go_wp2_with (at_builtin; refine wpList_append_lies _ rfl (.tmp 197) (.tmp 199) 22 rfl w.heap.size 21 i0 (.int .i32 0) 1 4 Try.underlying22 hi0 hz0 hz1 hz2 rfl (by decide) (.slice aZ s.size.length cZ) s.size.length (ints s.size) rfl hown ⟨w7.heap.size, 0, none⟩ 1 1 [.int .i32 ((A.length : Int) + 1)] rfl rfl (cell_one_new _ _ _) (by intro u hu; simp at hu; subst hu; rfl) (by decide) (by unfold maxLen; omega) (by omega) (by simp; omega) (w7.heap.size + 1) (by simp) ?_)
                intro g9 cap9 w9 hown9 hgrow9 hat9 hlt9
                have hown9' : w9.ownsRow w.heap.size 21 1 (.slice (some ⟨g9, 0, none⟩) (s.size.length + 1) cap9) (s.size.length + 1) (ints s.size ++ [.int .i32 ((A.length + 1 : Nat) : Int)]) := hown9
                have h9 := (h8.alloc (.cells #[.int .i32 ((A.length : Int) + 1)] 21)).pushSize (A.length + 1) hown9' rfl hgrow9 (by simpa using hat9)
                have hpa : pre = A := by have := HPR.out; simpa using this
                have h10 : Rep E w w9 (Tj.take s (pre ++ [v]) rest) (.slice (some ⟨gS, 0, none⟩) r capS) (.slice (some ⟨gK, 0, none⟩) (cs2.length + 1) cap) (.slice (some ⟨g9, 0, none⟩) (s.size.length + 1) cap9) := by rw [← take_eq HC.out (n := A.length + 1) (by rw [hpa]; simp), hpa]; exact h9
                clear hown hown9 hown9' hgrow9 hat9 hlt9 hi0 hz0 hz1 hz2 h9 h8
                go_wp2_with fail
                go_roundg (mu g (Tj.take s (pre ++ [v]) rest))
                case measure => rw [HM.out]; exact NX.out.2.1
                case rel => exact ⟨_, _, _, h10, NX.out.1, fun u hu => NX.out.2.2 u (HV.out u hu), rfl⟩
              | cons b B' =>
                obtain ⟨gS, capS, hvS, hgS1, hgS2⟩ := h4.ownS.form (by simp [pops])
                simp only [List.nil_append, List.cons_append] at h4 hvS
                have e9 : (pops { s with calls := p :: cs2 } A (b :: (B' ++ v :: rest))).stk.length = (B' ++ v :: rest).length + 1 := rfl
                rw [e9] at hvS
                subst hvS
                have hxn : b < E.n := HN.out b (by rw [HPR.out]; simp)
                obtain ⟨hcS, hcSm⟩ := owns_cap (by have := h4.ownS; rw [e9] at this; exact this)
                have hrl : (B' ++ v :: rest).length ≤ 4096 := by have h77 := hpl; have h78 := hAB; (try simp only [List.length_append, List.length_cons, List.length_nil] at h78 ⊢); omega
                unfold maxLen at hcSm
                have cS := h4.boxS.cell
                have fS := h4.boxS.free
                have tp := h4.top (x := b) (r := B' ++ v :: rest) rfl
                have h5 := h4.popStk (v := b) (cs := B' ++ v :: rest) rfl
                have HR : Hid (∃ r, r = (B' ++ v :: rest).length) := ⟨_, rfl⟩
                obtain ⟨r, hr⟩ := HR
                rw [← hr] at cS hcS tp hrl h5
                clear hr h4
                go_upto_region 35 with fail
                clear cS fS tp
                generalize (wr.setCell ⟨E.bS, 0, none⟩ (.slice (some ⟨gS, 0, none⟩) r capS)) = w5 at h5 ⊢
                have cO := h5.boxO.cell
                obtain ⟨bx, aO⟩ : ∃ bx, w5.cell? ⟨E.gO, b, none⟩ = some (.bool bx) := ⟨_, h5.arrO.cell hxn⟩
                have fO := h5.arrO.free b
                go_upto_region 36 with fail
                have h6 := h5.setOns b false
                clear cO aO fO h5
                generalize w5.setCell ⟨E.gO, b, none⟩ (.bool false) = w6 at h6 ⊢
                obtain ⟨nx, aM⟩ : ∃ nx : Int, w6.cell? ⟨E.gM, b, none⟩ = some (.int .i32 nx) := ⟨_, h6.arrM.cell hxn⟩
                have fM := h6.arrM.free b
                go_upto_region 37 with fail
                have h7 := h6.setComp b s.size.length
                clear aM fM h6
                generalize w6.setCell ⟨E.gM, b, none⟩ (.int .i32 (s.size.length : Int)) = w7 at h7 ⊢
                have h8 : Rep E w w7 (pops { s with calls := p :: cs2 } (A ++ [b]) (B' ++ v :: rest)) (.slice (some ⟨gS, 0, none⟩) r capS) (.slice (some ⟨gK, 0, none⟩) (cs2.length + 1) cap) (.slice aZ s.size.length cZ) := by rw [← pops_step _ _ _ _ (b :: (B' ++ v :: rest))]; exact h7
                clear h7
                have hbv : b ≠ v := fun e => HP.out (by rw [HPR.out, ← e]; simp)
                have txv : ((b : Int) == (v : Int)) = false := by rw [beq_eq_false_iff_ne]; omega
                go_wp2_with fail
                go_roundg (B'.length + 1)
                case measure => rw [HKK.out]; simp
                case rel => exact ⟨A ++ [b], B', _, by rw [HPR.out]; simp, rfl, by simp, h8⟩
          · have tl : ((s.low v : Int) != (s.idx v : Int)) = true := by rw [bne_iff_ne]; omega
            have NX := Tj.step_drop hi HC.out hlt hvg hl
            clear hl
            by_cases hlow : s.low v < s.low p
            · have hlow' : (s.low v : Int) < (s.low p : Int) := by omega
              have fL := h2.arrL.free p
              have hne : v ≠ p := by
                have := hi.top HC.out p List.mem_cons_self
                exact fun e => by subst e; omega
              have NX' : Tj.Next g s { Tj.setLow s p (s.low v) with calls := p :: cs2 } := by
                have e : Tj.lowered s v p = Tj.setLow s p (s.low v) := by unfold Tj.lowered; rw [if_pos hlow]
                rw [e] at NX; exact NX
              clear NX
              go_upto_region 29 with fail
              go_quiet (fail)
              go_upto_region 30 with fail
              go_region
              have h3 := (h2.drewN (nq + 1)).setLow p (s.low v)
              clear cC2 cI cL aI aL aP k0 fL
              generalize (w2.drewN (nq + 1)).setCell ⟨E.gL, p, none⟩ (.int .i32 (s.low v : Int)) = w3 at h3 ⊢
              have cI := h3.boxI.cell
              have cL := h3.boxL.cell
              have aI : w3.cell? ⟨E.gI, v, none⟩ = some (.int .i32 (s.idx v : Int)) := h3.arrI.cell hvn
              have aL : w3.cell? ⟨E.gL, v, none⟩ = some (.int .i32 (s.low v : Int)) := by
                have := h3.arrL.cell hvn
                simp only [upd_ne _ _ hne] at this
                exact this
              go_upto_region 31 with fail
              go_quiet (fail)
              go_wp2_with fail
              go_roundg (mu g { Tj.setLow s p (s.low v) with calls := p :: cs2 })
              case measure => rw [HM.out]; exact NX'.2.1
              case rel => exact ⟨_, _, _, h3.drewN _, NX'.1, fun u hu => NX'.2.2 u (HV.out u hu), rfl⟩
            · have hlow' : decide ((s.low v : Int) < (s.low p : Int)) = false := by simp; omega
              have NX' : Tj.Next g s { s with calls := p :: cs2 } := by
                have e : Tj.lowered s v p = s := by unfold Tj.lowered; rw [if_neg hlow]
                rw [e] at NX; exact NX
              clear NX
              go_upto_region 29 with fail
              go_quiet (fail)
              go_upto_region 31 with fail
              go_quiet (fail)
              go_wp2_with fail
              go_roundg (mu g { s with calls := p :: cs2 })
              case measure => rw [HM.out]; exact NX'.2.1
              case rel => exact ⟨_, _, _, h2.drewN _, NX'.1, fun u hu => NX'.2.2 u (HV.out u hu), rfl⟩

end Go.Proofs.Qxb6001346a
