/-
  THE STEPS OF THE SEARCH, each as the walk meets it.
-/
import Derived.Test.Qxb6001346aTarjan
set_option linter.all false
namespace Go.Proofs.Qxb6001346a.Tj

/-- What a round hands on. -/
def Next (g : Gr) (s s' : St) : Prop := Inv g s' ∧ mu g s' < mu g s ∧ ∀ u, s.idx u ≠ 0 → s'.idx u ≠ 0

section
variable {g : Gr} {s : St} {v : Nat} {cs : List Nat}
theorem step_skip (h : Inv g s) (hc : s.calls = v :: cs) (hn : v < g.n) (hk : s.nxt v < g.st (v + 1)) (ho : g.ok (s.nxt v) = false) : Next g s (look s v) := by
  refine ⟨look_inv h hc hk (fun h' => by rw [ho] at h'; cases h') (fun h' => by rw [ho] at h'; cases h'), ?_, fun u hu => hu⟩
  have := mu_look hn hk
  omega
theorem step_pass (h : Inv g s) (hc : s.calls = v :: cs) (hn : v < g.n) (hk : s.nxt v < g.st (v + 1)) (h0 : s.idx (g.to (s.nxt v)) ≠ 0) (hl : s.ons (g.to (s.nxt v)) = true → s.low v ≤ s.idx (g.to (s.nxt v))) : Next g s (look s v) := by
  refine ⟨look_inv h hc hk (fun _ => .inl h0) (fun _ hm => hl ((h.ons_iff _).1 hm)), ?_, fun u hu => hu⟩
  have := mu_look hn hk
  omega
theorem step_low (h : Inv g s) (hc : s.calls = v :: cs) (hn : v < g.n) (hk : s.nxt v < g.st (v + 1)) (ho : g.ok (s.nxt v) = true) (h0 : s.idx (g.to (s.nxt v)) ≠ 0) (hs : s.ons (g.to (s.nxt v)) = true) (hl : s.idx (g.to (s.nxt v)) < s.low v) :
    Next g s (setLow (look s v) v (s.idx (g.to (s.nxt v)))) := by
  have h1 : Inv g (setLow s v (s.idx (g.to (s.nxt v)))) := setLow_inv h hl ⟨_, (h.ons_iff _).2 hs, rfl, Reach.edge ⟨hn, _, h.nxt_ge v, hk, ho, rfl⟩⟩
  have h2 : InvX g (fun _ => False) (look (setLow s v (s.idx (g.to (s.nxt v)))) v) := look_inv h1 hc hk (fun _ => .inl h0) (fun _ _ => by simp only [setLow, upd_same]; exact Nat.le_refl _)
  refine ⟨h2, ?_, fun u hu => hu⟩
  have := mu_look (g := g) hn hk
  have e : mu g (setLow (look s v) v (s.idx (g.to (s.nxt v)))) = mu g (look s v) := rfl
  omega
theorem step_visit (h : Inv g s) (hc : s.calls = v :: cs) (hn : v < g.n) (hk : s.nxt v < g.st (v + 1)) (ho : g.ok (s.nxt v) = true) (htn : g.to (s.nxt v) < g.n) (h0 : s.idx (g.to (s.nxt v)) = 0) : Next g s (visit (look s v) (g.to (s.nxt v))) := by
  have hvc : v ∈ s.calls := by rw [hc]; exact List.mem_cons_self
  have h1 : InvX g (fun y => y = g.to (s.nxt v)) (look s v) := look_inv h hc hk (fun _ => .inr rfl) (fun _ hm => absurd h0 (h.stk_vis _ hm))
  refine ⟨visit_inv h1 h0 htn ?_, ?_, ?_⟩
  · intro c hm
    exact (h.up c hm v (h.calls_stk v hvc) (h.top_le hc c hm)).trans (Reach.edge ⟨hn, _, h.nxt_ge v, hk, ho, rfl⟩)
  · rw [mu_visit h1 h0 htn]
    have := mu_look hn hk
    omega
  · intro u hu
    by_cases e : u = g.to (s.nxt v)
    · rw [e] at hu; exact absurd h0 hu
    · simp only [visit, upd_ne _ _ e]; exact hu
theorem step_visit_nxt (h : Inv g s) (hc : s.calls = v :: cs) {t : Nat} (h0 : s.idx t = 0) : (look s v).nxt t = g.st t := by
  have hvc : v ∈ s.calls := by rw [hc]; exact List.mem_cons_self
  have hne : t ≠ v := fun e => h.stk_vis v (h.calls_stk v hvc) (e ▸ h0)
  simp only [look, upd_ne _ _ hne]
  exact h.nxt_new t h0
/-- The low link of the node below is lowered where that of the top is less. -/
def lowered (s : St) (v p : Nat) : St := if s.low v < s.low p then setLow s p (s.low v) else s
theorem lowered_inv (h : Inv g s) {p : Nat} {cs' : List Nat} (hc : s.calls = v :: p :: cs') : Inv g (lowered s v p) ∧ (lowered s v p).low p ≤ s.low v ∧ (lowered s v p).low v = s.low v := by
  have hvc : v ∈ s.calls := by rw [hc]; exact List.mem_cons_self
  have hpc : p ∈ s.calls := by rw [hc]; exact List.mem_cons_of_mem _ List.mem_cons_self
  have hlt : s.idx p < s.idx v := h.top hc p List.mem_cons_self
  have hpv : v ≠ p := fun e => by subst e; omega
  unfold lowered
  by_cases hl : s.low v < s.low p
  · rw [if_pos hl]
    obtain ⟨w, w1, w2, w3⟩ := h.low_to v hvc
    refine ⟨setLow_inv h hl ⟨w, w1, w2, (h.up p hpc v (h.calls_stk v hvc) (Nat.le_of_lt hlt)).trans w3⟩, ?_, ?_⟩
    · simp only [setLow, upd_same]; exact Nat.le_refl _
    · simp only [setLow, upd_ne _ _ hpv]
  · rw [if_neg hl]
    exact ⟨h, by omega, rfl⟩
theorem step_drop (h : Inv g s) {p : Nat} {cs' : List Nat} (hc : s.calls = v :: p :: cs') (hk : ¬ s.nxt v < g.st (v + 1)) (hn : v < g.n) (hl : s.low v ≠ s.idx v) : Next g s { lowered s v p with calls := p :: cs' } := by
  obtain ⟨h1, h2, h3⟩ := lowered_inv h hc
  have ec : (lowered s v p).calls = v :: p :: cs' := by unfold lowered; split <;> exact hc
  have en : (lowered s v p).nxt = s.nxt := by unfold lowered; split <;> rfl
  have ei : (lowered s v p).idx = s.idx := by unfold lowered; split <;> rfl
  have em : mu g (lowered s v p) = mu g s := by unfold lowered; split <;> rfl
  have hk' : s.nxt v = g.st (v + 1) := by have := h.nxt_le v hn; omega
  have hd := drop_inv h1 ec (by rw [en]; exact hk') (by rw [h3, ei]; exact hl) (fun p' cs'' e => by cases e; rw [h3]; exact h2)
  have hm := mu_drop (g := g) ec
  have e : drop (lowered s v p) = { lowered s v p with calls := p :: cs' } := by simp only [drop, ec, List.tail_cons]
  rw [e] at hd hm
  exact ⟨hd, by omega, fun u hu => by show (lowered s v p).idx u ≠ 0; rw [ei]; exact hu⟩
/-- A node that is done and heads no component has a node below it. -/
theorem has_below (h : Inv g s) (hc : s.calls = v :: cs) (hl : s.low v ≠ s.idx v) : cs ≠ [] := by
  intro e
  subst e
  have hvc : v ∈ s.calls := by rw [hc]; exact List.mem_cons_self
  obtain ⟨w, w1, w2, _⟩ := h.low_to v hvc
  obtain ⟨c, c1, c2, _⟩ := h.down w w1
  have := h.low_le v hvc
  rw [hc] at c1
  simp only [List.mem_cons, List.not_mem_nil, or_false] at c1
  subst c1
  omega
/-- Where the top heads a component nothing is lowered. -/
theorem not_lowered (h : Inv g s) {p : Nat} {cs' : List Nat} (hc : s.calls = v :: p :: cs') (hl : s.low v = s.idx v) : ¬ s.low v < s.low p := by
  have hpc : p ∈ s.calls := by rw [hc]; exact List.mem_cons_of_mem _ List.mem_cons_self
  have := h.low_le p hpc
  have := h.top hc p List.mem_cons_self
  omega
theorem split_stk (h : Inv g s) (hc : s.calls = v :: cs) : ∃ pre rest, s.stk = pre ++ v :: rest ∧ v ∉ pre := by
  have hvs : v ∈ s.stk := h.calls_stk v (by rw [hc]; exact List.mem_cons_self)
  obtain ⟨pre, rest, e⟩ := List.append_of_mem hvs
  refine ⟨pre, rest, e, ?_⟩
  have := h.stk_nodup
  rw [e] at this
  intro hm
  exact (List.nodup_append.1 this).2.2 v hm v List.mem_cons_self rfl
theorem step_take (h : Inv g s) (hc : s.calls = v :: cs) (hk : ¬ s.nxt v < g.st (v + 1)) (hn : v < g.n) (hl : s.low v = s.idx v) {pre rest : List Nat} (hs : s.stk = pre ++ v :: rest) : Next g s (take s (pre ++ [v]) rest) := by
  have hk' : s.nxt v = g.st (v + 1) := by have := h.nxt_le v hn; omega
  have hm := mu_take (g := g) (C := pre ++ [v]) (rest := rest) hc
  exact ⟨take_inv h hc hk' hl hs, by omega, fun u hu => hu⟩
/-- The search is begun at a node that is not visited. -/
theorem start_visit (h : Inv g s) (hc : s.calls = []) (hn : v < g.n) (h0 : s.idx v = 0) : Inv g (visit s v) ∧ s.nxt v = g.st v := by
  refine ⟨visit_inv ?_ h0 hn (by rw [hc]; intro c hm; cases hm), h.nxt_new v h0⟩
  exact { h with done_vis := fun x e hx hd => .inl ((h.done_vis x e hx hd).resolve_right (fun f => f)) }
end
end Go.Proofs.Qxb6001346a.Tj
