/-
  THE PLAIN LAW OF TARJAN's ALGORITHM (no Go in sight): the iterative search with a call stack, an index and a low link for each node, as cycles.go's 'components' runs it.
  'Inv': what holds at the head of each round of the inner loop. A theorem a step: 'Inv' is kept and the measure falls.
-/
set_option linter.all false
namespace Go.Proofs.Qxb6001346a.Tj

def upd {α : Type} (f : Nat → α) (i : Nat) (v : α) : Nat → α := fun j => if j = i then v else f j
theorem upd_same {α : Type} (f : Nat → α) (i : Nat) (v : α) : upd f i v i = v := by simp [upd]
theorem upd_ne {α : Type} (f : Nat → α) {i j : Nat} (v : α) (h : j ≠ i) : upd f i v j = f j := by simp [upd, h]

def sumTo (f : Nat → Nat) : Nat → Nat
  | 0 => 0
  | n + 1 => sumTo f n + f n
def cntTo (p : Nat → Bool) : Nat → Nat
  | 0 => 0
  | n + 1 => cntTo p n + (if p n then 1 else 0)

theorem sumTo_congr {f h : Nat → Nat} : ∀ n, (∀ u, u < n → f u = h u) → sumTo f n = sumTo h n
  | 0, _ => rfl
  | n + 1, e => by
    simp only [sumTo]
    rw [sumTo_congr n (fun u hu => e u (by omega)), e n (by omega)]
theorem sumTo_upd (f h : Nat → Nat) (i : Nat) : ∀ n, i < n → (∀ u, u ≠ i → h u = f u) → sumTo h n + f i = sumTo f n + h i
  | 0, hi, _ => by omega
  | n + 1, hi, e => by
    simp only [sumTo]
    by_cases hn : i = n
    · subst hn
      rw [sumTo_congr (f := h) (h := f) i (fun u hu => e u (by omega))]
      omega
    · have := sumTo_upd f h i n (by omega) e
      rw [e n (by omega)]
      omega
theorem cntTo_congr {p q : Nat → Bool} : ∀ n, (∀ u, u < n → p u = q u) → cntTo p n = cntTo q n
  | 0, _ => rfl
  | n + 1, e => by
    simp only [cntTo]
    rw [cntTo_congr n (fun u hu => e u (by omega)), e n (by omega)]
theorem cntTo_ins (p q : Nat → Bool) (i : Nat) : ∀ n, i < n → p i = false → q i = true → (∀ u, u ≠ i → q u = p u) → cntTo q n = cntTo p n + 1
  | 0, hi, _, _, _ => by omega
  | n + 1, hi, hp, hq, e => by
    simp only [cntTo]
    by_cases hn : i = n
    · subst hn
      rw [cntTo_congr (p := q) (q := p) i (fun u hu => e u (by omega)), hp, hq]
      simp
    · have := cntTo_ins p q i n (by omega) hp hq e
      rw [e n (by omega)]
      omega
theorem cntTo_le (p : Nat → Bool) : ∀ n, cntTo p n ≤ n
  | 0 => by simp [cntTo]
  | n + 1 => by
    simp only [cntTo]
    have := cntTo_le p n
    split <;> omega
theorem cntTo_lt (p : Nat → Bool) (i : Nat) (n : Nat) (hi : i < n) (hp : p i = false) : cntTo p n < n := by
  have h1 := cntTo_ins p (upd p i true) i n hi hp (upd_same _ _ _) (fun u hu => upd_ne _ _ hu)
  have h2 := cntTo_le (upd p i true) n
  omega
theorem cntTo_false (p : Nat → Bool) : ∀ n, (∀ u, u < n → p u = false) → cntTo p n = 0
  | 0, _ => rfl
  | n + 1, h => by
    simp only [cntTo]
    rw [cntTo_false p n (fun u hu => h u (by omega)), h n (by omega)]
    rfl
theorem cntTo_mem (n : Nat) : ∀ C : List Nat, C.Nodup → (∀ x ∈ C, x < n) → cntTo (fun u => decide (u ∈ C)) n = C.length
  | [], _, _ => cntTo_false _ _ (by simp)
  | x :: C, hn, hl => by
    have hn' := List.nodup_cons.1 hn
    have ih := cntTo_mem n C hn'.2 (fun y hy => hl y (List.mem_cons_of_mem _ hy))
    rw [cntTo_ins (fun u => decide (u ∈ C)) (fun u => decide (u ∈ x :: C)) x n (hl x (List.mem_cons_self)) (by simpa using hn'.1) (by simp) (by
      intro u hu
      simp [hu]), ih]
    simp

/-- A graph: the edges out of u are those numbered st u .. st (u + 1) - 1; 'ok e': the edge counts (its kind is in the mask). -/
structure Gr where
  n : Nat
  st : Nat → Nat
  to : Nat → Nat
  ok : Nat → Bool
structure Gr.Wf (g : Gr) (m : Nat) : Prop where
  mono : ∀ i, i < g.n → g.st i ≤ g.st (i + 1)
  last : g.st g.n = m
  tgt : ∀ e, e < m → g.to e < g.n

theorem Gr.Wf.le {g : Gr} {m : Nat} (h : g.Wf m) : ∀ k i, i + k = g.n → g.st i ≤ m
  | 0, i, e => by
    have : i = g.n := by omega
    rw [this, h.last]
    exact Nat.le_refl _
  | k + 1, i, e => Nat.le_trans (h.mono i (by omega)) (h.le k (i + 1) (by omega))
theorem Gr.Wf.st_le {g : Gr} {m : Nat} (h : g.Wf m) {i : Nat} (hi : i ≤ g.n) : g.st i ≤ m := h.le (g.n - i) i (by omega)
theorem Gr.Wf.edge_lt {g : Gr} {m : Nat} (h : g.Wf m) {u e : Nat} (hu : u < g.n) (he : e < g.st (u + 1)) : e < m :=
  Nat.lt_of_lt_of_le he (h.st_le (by omega))

def Edge (g : Gr) (u v : Nat) : Prop := u < g.n ∧ ∃ e, g.st u ≤ e ∧ e < g.st (u + 1) ∧ g.ok e = true ∧ g.to e = v
/-- v is reached from u: v lies in every set that holds u and is closed under the edges. -/
def Reach (g : Gr) (u v : Nat) : Prop := ∀ S : Nat → Prop, S u → (∀ a b, S a → Edge g a b → S b) → S v
theorem Reach.refl (g : Gr) (u : Nat) : Reach g u u := fun _ h _ => h
theorem Reach.trans {g : Gr} {u v w : Nat} (h : Reach g u v) (k : Reach g v w) : Reach g u w := fun S hu hc => k S (h S hu hc) hc
theorem Reach.edge {g : Gr} {u v : Nat} (h : Edge g u v) : Reach g u v := fun _ hu hc => hc _ _ hu h

/-- The state. 'stk', 'calls': top first. 'nxt u': the first edge of u that has not been looked at. -/
structure St where
  comp : Nat → Nat
  idx : Nat → Nat
  low : Nat → Nat
  ons : Nat → Bool
  nxt : Nat → Nat
  stk : List Nat
  calls : List Nat
  count : Nat
  size : List Nat

def Done (g : Gr) (s : St) (x e : Nat) : Prop := g.st x ≤ e ∧ e < s.nxt x ∧ g.ok e = true
def Fin (s : St) (u : Nat) : Prop := s.idx u ≠ 0 ∧ s.ons u = false
def inComp (s : St) (c : Nat) : Nat → Bool := fun u => (s.idx u != 0) && !s.ons u && (s.comp u == c)

/-- What holds at a round's head. 'X': nodes that may be the target of an edge that was looked at and are not visited yet (between the look and the visit). -/
structure InvX (g : Gr) (X : Nat → Prop) (s : St) : Prop where
  ons_iff : ∀ u, u ∈ s.stk ↔ s.ons u = true
  stk_vis : ∀ u, u ∈ s.stk → s.idx u ≠ 0
  stk_sorted : s.stk.Pairwise (fun a b => s.idx b < s.idx a)
  idx_le : ∀ u, s.idx u ≤ s.count
  vis_lt : ∀ u, s.idx u ≠ 0 → u < g.n
  calls_stk : ∀ c, c ∈ s.calls → c ∈ s.stk
  calls_sorted : s.calls.Pairwise (fun a b => s.idx b < s.idx a)
  nxt_ge : ∀ u, g.st u ≤ s.nxt u
  nxt_le : ∀ u, u < g.n → s.nxt u ≤ g.st (u + 1)
  nxt_fin : ∀ u, s.idx u ≠ 0 → u ∉ s.calls → s.nxt u = g.st (u + 1)
  nxt_new : ∀ u, s.idx u = 0 → s.nxt u = g.st u
  up : ∀ c, c ∈ s.calls → ∀ y, y ∈ s.stk → s.idx c ≤ s.idx y → Reach g c y
  down : ∀ x, x ∈ s.stk → ∃ c, c ∈ s.calls ∧ s.idx c ≤ s.idx x ∧ Reach g x c
  low_le : ∀ c, c ∈ s.calls → s.low c ≤ s.idx c
  low_to : ∀ c, c ∈ s.calls → ∃ w, w ∈ s.stk ∧ s.low c = s.idx w ∧ Reach g c w
  done_vis : ∀ x e, s.idx x ≠ 0 → Done g s x e → s.idx (g.to e) ≠ 0 ∨ X (g.to e)
  low_ge : ∀ c, c ∈ s.calls → ∀ x, x ∈ s.stk → s.idx c ≤ s.idx x → (∀ c', c' ∈ s.calls → s.idx c' ≤ s.idx x → s.idx c' ≤ s.idx c) →
    ∀ e, Done g s x e → g.to e ∈ s.stk → s.low c ≤ s.idx (g.to e)
  fin_lt : ∀ u, Fin s u → s.comp u < s.size.length
  fin_edge : ∀ u, Fin s u → ∀ v, Edge g u v → Fin s v ∧ s.comp v ≤ s.comp u
  fin_same : ∀ u v, Fin s u → Fin s v → s.comp u = s.comp v → Reach g u v
  cnt : ∀ c, c < s.size.length → s.size.getD c 0 = cntTo (inComp s c) g.n ∧ 1 ≤ s.size.getD c 0
  num : s.count = cntTo (fun u => (s.idx u != 0)) g.n
  sum : s.size.sum + s.stk.length = s.count

abbrev Inv (g : Gr) (s : St) : Prop := InvX g (fun _ => False) s

def mu (g : Gr) (s : St) : Nat := sumTo (fun u => g.st (u + 1) - s.nxt u) g.n + (g.n - s.count) + s.calls.length

/-! ### the steps -/
/-- The node v has been reached: it gets the next index, goes onto both stacks. -/
def visit (s : St) (v : Nat) : St :=
  { s with count := s.count + 1, idx := upd s.idx v (s.count + 1), low := upd s.low v (s.count + 1), stk := v :: s.stk, ons := upd s.ons v true, calls := v :: s.calls }
/-- One edge of v has been looked at. -/
def look (s : St) (v : Nat) : St := { s with nxt := upd s.nxt v (s.nxt v + 1) }
def setLow (s : St) (v x : Nat) : St := { s with low := upd s.low v x }

theorem pairwise_mono {α : Type} {R T : α → α → Prop} (hRT : ∀ a b, R a b → T a b) {l : List α} (h : l.Pairwise R) : l.Pairwise T := by
  induction l with
  | nil => exact List.Pairwise.nil
  | cons x l ih =>
    rw [List.pairwise_cons] at h ⊢
    exact ⟨fun b hb => hRT x b (h.1 b hb), ih h.2⟩
/-- The same on the members of the list alone. -/
theorem pairwise_mono_mem {α : Type} {R T : α → α → Prop} {l : List α} (hRT : ∀ a b, a ∈ l → b ∈ l → R a b → T a b) (h : l.Pairwise R) : l.Pairwise T := by
  induction l with
  | nil => exact List.Pairwise.nil
  | cons x l ih =>
    rw [List.pairwise_cons] at h ⊢
    exact ⟨fun b hb => hRT x b List.mem_cons_self (List.mem_cons_of_mem _ hb) (h.1 b hb), ih (fun a b ha hb => hRT a b (List.mem_cons_of_mem _ ha) (List.mem_cons_of_mem _ hb)) h.2⟩
theorem InvX.count_le {g : Gr} {X : Nat → Prop} {s : St} (h : InvX g X s) : s.count ≤ g.n := by rw [h.num]; exact cntTo_le _ _
theorem InvX.not_mem {g : Gr} {X : Nat → Prop} {s : St} (h : InvX g X s) {u : Nat} (hu : s.idx u = 0) : u ∉ s.stk := fun hm => h.stk_vis u hm hu
theorem InvX.count_lt {g : Gr} {X : Nat → Prop} {s : St} (h : InvX g X s) {u : Nat} (hu : s.idx u = 0) (hn : u < g.n) : s.count < g.n := by
  rw [h.num]; exact cntTo_lt _ u _ hn (by simp [hu])
theorem InvX.stk_lt {g : Gr} {X : Nat → Prop} {s : St} (h : InvX g X s) {u : Nat} (hu : u ∈ s.stk) : u < g.n := h.vis_lt u (h.stk_vis u hu)
theorem InvX.stk_nodup {g : Gr} {X : Nat → Prop} {s : St} (h : InvX g X s) : s.stk.Nodup := by
  refine pairwise_mono ?_ h.stk_sorted
  intro a b hab e
  subst e
  omega
theorem InvX.stk_len {g : Gr} {X : Nat → Prop} {s : St} (h : InvX g X s) : s.stk.length ≤ g.n := by have := h.sum; have := h.count_le; omega
theorem sum_ge : ∀ l : List Nat, (∀ c, c < l.length → 1 ≤ l.getD c 0) → l.length ≤ l.sum
  | [], _ => by simp
  | x :: l, h => by
    have h0 := h 0 (by simp)
    have := sum_ge l (fun c hc => by have := h (c + 1) (by simpa using hc); simpa using this)
    simp at h0 ⊢
    omega
theorem InvX.size_len {g : Gr} {X : Nat → Prop} {s : St} (h : InvX g X s) : s.size.length ≤ g.n := by
  have := sum_ge s.size (fun c hc => (h.cnt c hc).2)
  have := h.sum
  have := h.count_le
  omega
theorem InvX.calls_len {g : Gr} {X : Nat → Prop} {s : St} (h : InvX g X s) : s.calls.length ≤ g.n := by
  have hnd : s.calls.Nodup := by
    refine pairwise_mono ?_ h.calls_sorted
    intro a b hab e
    subst e
    omega
  have := cntTo_mem g.n s.calls hnd (fun x hx => h.stk_lt (h.calls_stk x hx))
  have := cntTo_le (fun u => decide (u ∈ s.calls)) g.n
  omega


/-- v heads the call stack: no index of it is greater. -/
theorem InvX.top {g : Gr} {X : Nat → Prop} {s : St} (h : InvX g X s) {v : Nat} {cs : List Nat} (hc : s.calls = v :: cs) : ∀ c, c ∈ cs → s.idx c < s.idx v := by
  have := h.calls_sorted
  rw [hc, List.pairwise_cons] at this
  exact this.1
theorem InvX.top_le {g : Gr} {X : Nat → Prop} {s : St} (h : InvX g X s) {v : Nat} {cs : List Nat} (hc : s.calls = v :: cs) : ∀ c, c ∈ s.calls → s.idx c ≤ s.idx v := by
  intro c hm
  rw [hc] at hm
  rcases List.mem_cons.1 hm with rfl | hm
  · exact Nat.le_refl _
  · exact Nat.le_of_lt (h.top hc c hm)

/-- ONE EDGE OF THE TOP NODE IS LOOKED AT. -/
theorem look_inv {g : Gr} {X : Nat → Prop} {s : St} (h : Inv g s) {v : Nat} {cs : List Nat} (hc : s.calls = v :: cs) (hk : s.nxt v < g.st (v + 1))
    (hv : g.ok (s.nxt v) = true → s.idx (g.to (s.nxt v)) ≠ 0 ∨ X (g.to (s.nxt v)))
    (hl : g.ok (s.nxt v) = true → g.to (s.nxt v) ∈ s.stk → s.low v ≤ s.idx (g.to (s.nxt v))) : InvX g X (look s v) := by
  have hvc : v ∈ s.calls := by rw [hc]; exact List.mem_cons_self
  have hdone : ∀ x e, Done g (look s v) x e → Done g s x e ∨ (x = v ∧ e = s.nxt v ∧ g.ok e = true) := by
    intro x e hd
    obtain ⟨d1, d2, d3⟩ := hd
    by_cases hx : x = v
    · subst hx
      simp only [look, upd_same] at d2
      by_cases he : e = s.nxt x
      · exact .inr ⟨rfl, he, d3⟩
      · exact .inl ⟨d1, by omega, d3⟩
    · simp only [look, upd_ne _ _ hx] at d2
      exact .inl ⟨d1, d2, d3⟩
  exact {
    ons_iff := h.ons_iff, stk_vis := h.stk_vis, stk_sorted := h.stk_sorted, idx_le := h.idx_le, vis_lt := h.vis_lt, calls_stk := h.calls_stk, calls_sorted := h.calls_sorted
    nxt_ge := by
      intro u
      by_cases hu : u = v
      · subst hu; simp only [look, upd_same]; have := h.nxt_ge u; omega
      · simp only [look, upd_ne _ _ hu]; exact h.nxt_ge u
    nxt_le := by
      intro u hn
      by_cases hu : u = v
      · subst hu; simp only [look, upd_same]; omega
      · simp only [look, upd_ne _ _ hu]; exact h.nxt_le u hn
    nxt_fin := by
      intro u h0 hm
      have hu : u ≠ v := fun e => hm (e ▸ hvc)
      simp only [look, upd_ne _ _ hu]; exact h.nxt_fin u h0 hm
    nxt_new := by
      intro u h0
      have hu : u ≠ v := fun e => by subst e; exact h.stk_vis u (h.calls_stk u hvc) h0
      simp only [look, upd_ne _ _ hu]; exact h.nxt_new u h0
    up := h.up, down := h.down, low_le := h.low_le, low_to := h.low_to
    done_vis := by
      intro x e hx hd
      rcases hdone x e hd with hd | ⟨rfl, rfl, ho⟩
      · exact .inl ((h.done_vis x e hx hd).resolve_right (fun f => f))
      · exact hv ho
    low_ge := by
      intro c hm x hx hcx hmax e hd ht
      rcases hdone x e hd with hd | ⟨rfl, rfl, ho⟩
      · exact h.low_ge c hm x hx hcx hmax e hd ht
      · have h1 := hmax x hvc (Nat.le_refl _)
        have h2 := h.top_le hc c hm
        have e1 : c = x := by
          have hm' : c ∈ s.calls := hm
          rw [hc] at hm'
          rcases List.mem_cons.1 hm' with e | hm
          · exact e
          · have := h.top hc c hm
            simp only [look] at h1
            omega
        rw [e1]
        exact hl ho ht
    fin_lt := h.fin_lt, fin_edge := h.fin_edge, fin_same := h.fin_same, cnt := h.cnt, num := h.num, sum := h.sum }

theorem mu_look {g : Gr} {s : St} {v : Nat} (hn : v < g.n) (hk : s.nxt v < g.st (v + 1)) : mu g (look s v) + 1 = mu g s := by
  have := sumTo_upd (fun u => g.st (u + 1) - s.nxt u) (fun u => g.st (u + 1) - (look s v).nxt u) v g.n hn (by intro u hu; simp only [look, upd_ne _ _ hu])
  simp only [look, upd_same] at this
  simp only [mu, look]
  omega

/-- A low link of a node of the call stack is lowered. -/
theorem setLow_inv {g : Gr} {s : St} (h : Inv g s) {v x : Nat} (hx : x < s.low v) (hw : ∃ w, w ∈ s.stk ∧ x = s.idx w ∧ Reach g v w) : Inv g (setLow s v x) := by
  have hle : ∀ c, (setLow s v x).low c ≤ s.low c := by
    intro c
    by_cases hcv : c = v
    · subst hcv; simp only [setLow, upd_same]; omega
    · simp only [setLow, upd_ne _ _ hcv]; exact Nat.le_refl _
  exact {
    ons_iff := h.ons_iff, stk_vis := h.stk_vis, stk_sorted := h.stk_sorted, idx_le := h.idx_le, vis_lt := h.vis_lt, calls_stk := h.calls_stk, calls_sorted := h.calls_sorted
    nxt_ge := h.nxt_ge, nxt_le := h.nxt_le, nxt_fin := h.nxt_fin, nxt_new := h.nxt_new, up := h.up, down := h.down
    low_le := fun c hm => Nat.le_trans (hle c) (h.low_le c hm)
    low_to := by
      intro c hm
      by_cases hcv : c = v
      · subst hcv
        obtain ⟨w, w1, w2, w3⟩ := hw
        exact ⟨w, w1, by simp only [setLow, upd_same]; exact w2, w3⟩
      · obtain ⟨w, w1, w2, w3⟩ := h.low_to c hm
        exact ⟨w, w1, by simp only [setLow, upd_ne _ _ hcv]; exact w2, w3⟩
    done_vis := h.done_vis
    low_ge := fun c hm x hx hcx hmax e hd ht => Nat.le_trans (hle c) (h.low_ge c hm x hx hcx hmax e hd ht)
    fin_lt := h.fin_lt, fin_edge := h.fin_edge, fin_same := h.fin_same, cnt := h.cnt, num := h.num, sum := h.sum }

/-- A NEW NODE IS REACHED. -/
theorem visit_inv {g : Gr} {s : St} {v : Nat} (h : InvX g (fun y => y = v) s) (h0 : s.idx v = 0) (hn : v < g.n) (hr : ∀ c, c ∈ s.calls → Reach g c v) : Inv g (visit s v) := by
  have hnv : v ∉ s.stk := h.not_mem h0
  have hne : ∀ u, u ∈ s.stk → u ≠ v := fun u hu e => hnv (e ▸ hu)
  have hidx : ∀ u, u ∈ s.stk → upd s.idx v (s.count + 1) u = s.idx u := fun u hu => upd_ne _ _ (hne u hu)
  have hfin : ∀ u, Fin (visit s v) u → Fin s u ∧ u ≠ v := by
    intro u ⟨f1, f2⟩
    have hu : u ≠ v := by intro e; subst e; simp only [visit, upd_same] at f2; exact absurd f2 (by simp)
    simp only [visit, upd_ne _ _ hu] at f1 f2
    exact ⟨⟨f1, f2⟩, hu⟩
  have hfin' : ∀ u, Fin s u → Fin (visit s v) u := by
    intro u ⟨f1, f2⟩
    have hu : u ≠ v := fun e => f1 (e ▸ h0)
    exact ⟨by simp only [visit, upd_ne _ _ hu]; exact f1, by simp only [visit, upd_ne _ _ hu]; exact f2⟩
  have hdone : ∀ x e, Done g (visit s v) x e → x ≠ v := by
    intro x e ⟨d1, d2, _⟩ hx
    subst hx
    have := h.nxt_new x h0
    simp only [visit] at d2
    omega
  exact {
    ons_iff := by
      intro u
      simp only [visit, List.mem_cons]
      by_cases hu : u = v
      · subst hu; simp [upd_same]
      · rw [upd_ne _ _ hu]; simp only [hu, false_or]; exact h.ons_iff u
    stk_vis := by
      intro u hu
      simp only [visit, List.mem_cons] at hu ⊢
      by_cases e : u = v
      · subst e; rw [upd_same]; omega
      · rw [upd_ne _ _ e]; exact h.stk_vis u (hu.resolve_left e)
    stk_sorted := by
      simp only [visit, List.pairwise_cons]
      refine ⟨?_, ?_⟩
      · intro b hb
        rw [hidx b hb, upd_same]
        have := h.idx_le b
        omega
      · refine pairwise_mono_mem ?_ h.stk_sorted
        intro a b ha hb hab
        rw [hidx a ha, hidx b hb]
        exact hab
    idx_le := by
      intro u
      simp only [visit]
      by_cases e : u = v
      · subst e; rw [upd_same]; exact Nat.le_refl _
      · rw [upd_ne _ _ e]; have := h.idx_le u; omega
    vis_lt := by
      intro u hu
      simp only [visit] at hu
      by_cases e : u = v
      · subst e; exact hn
      · rw [upd_ne _ _ e] at hu; exact h.vis_lt u hu
    calls_stk := by
      intro c hm
      simp only [visit, List.mem_cons] at hm ⊢
      rcases hm with e | hm
      · exact .inl e
      · exact .inr (h.calls_stk c hm)
    calls_sorted := by
      simp only [visit, List.pairwise_cons]
      refine ⟨?_, ?_⟩
      · intro b hb
        rw [hidx b (h.calls_stk b hb), upd_same]
        have := h.idx_le b
        omega
      · refine pairwise_mono_mem ?_ h.calls_sorted
        intro a b ha hb hab
        rw [hidx a (h.calls_stk a ha), hidx b (h.calls_stk b hb)]
        exact hab
    nxt_ge := h.nxt_ge
    nxt_le := h.nxt_le
    nxt_fin := by
      intro u hu hm
      simp only [visit, List.mem_cons, not_or] at hu hm
      rw [upd_ne _ _ hm.1] at hu
      exact h.nxt_fin u hu hm.2
    nxt_new := by
      intro u hu
      simp only [visit] at hu
      by_cases e : u = v
      · subst e; exact h.nxt_new u h0
      · rw [upd_ne _ _ e] at hu; exact h.nxt_new u hu
    up := by
      intro c hm y hy hcy
      simp only [visit, List.mem_cons] at hm hy hcy
      by_cases e : c = v
      · subst e
        by_cases e2 : y = c
        · subst e2; exact Reach.refl _ _
        · have hy' := hy.resolve_left e2
          rw [upd_same, hidx y hy'] at hcy
          have := h.idx_le y
          omega
      · have hm' := hm.resolve_left e
        by_cases e2 : y = v
        · subst e2; exact hr c hm'
        · have hy' := hy.resolve_left e2
          rw [hidx y hy', hidx c (h.calls_stk c hm')] at hcy
          exact h.up c hm' y hy' hcy
    down := by
      intro x hx
      simp only [visit, List.mem_cons] at hx ⊢
      by_cases e : x = v
      · subst e; exact ⟨x, .inl rfl, Nat.le_refl _, Reach.refl _ _⟩
      · have hx' := hx.resolve_left e
        obtain ⟨c, c1, c2, c3⟩ := h.down x hx'
        exact ⟨c, .inr c1, by rw [hidx x hx', hidx c (h.calls_stk c c1)]; exact c2, c3⟩
    low_le := by
      intro c hm
      simp only [visit, List.mem_cons] at hm ⊢
      by_cases e : c = v
      · subst e; rw [upd_same, upd_same]; exact Nat.le_refl _
      · rw [upd_ne _ _ e, upd_ne _ _ e]; exact h.low_le c (hm.resolve_left e)
    low_to := by
      intro c hm
      simp only [visit, List.mem_cons] at hm ⊢
      by_cases e : c = v
      · subst e; exact ⟨c, .inl rfl, by rw [upd_same, upd_same], Reach.refl _ _⟩
      · obtain ⟨w, w1, w2, w3⟩ := h.low_to c (hm.resolve_left e)
        exact ⟨w, .inr w1, by rw [upd_ne _ _ e, hidx w w1]; exact w2, w3⟩
    done_vis := by
      intro x e hx hd
      have hxv := hdone x e hd
      simp only [visit, upd_ne _ _ hxv] at hx
      left
      simp only [visit]
      by_cases et : g.to e = v
      · rw [et, upd_same]; omega
      · rw [upd_ne _ _ et]; exact (h.done_vis x e hx hd).resolve_right et
    low_ge := by
      intro c hm x hx hcx hmax e hd ht
      have hxv := hdone x e hd
      simp only [visit, List.mem_cons] at hm hx ht hcx ⊢
      have hx' := hx.resolve_left hxv
      have hcv : c ≠ v := by
        intro ec
        subst ec
        rw [upd_same, hidx x hx'] at hcx
        have := h.idx_le x
        omega
      have hm' := hm.resolve_left hcv
      have hcs := h.calls_stk c hm'
      rw [upd_ne _ _ hcv]
      by_cases et : g.to e = v
      · rw [et, upd_same]
        have h1 := h.low_le c hm'
        have h2 := h.idx_le c
        omega
      · have ht' := ht.resolve_left et
        rw [hidx _ ht']
        rw [hidx c hcs, hidx x hx'] at hcx
        refine h.low_ge c hm' x hx' hcx ?_ e hd ht'
        intro c' hc' hcx'
        have := hmax c' (List.mem_cons_of_mem _ hc')
        simp only [visit] at this
        rw [hidx c' (h.calls_stk c' hc'), hidx x hx', hidx c hcs] at this
        exact this hcx'
    fin_lt := by
      intro u hu
      exact h.fin_lt u (hfin u hu).1
    fin_edge := by
      intro u hu y hy
      have := h.fin_edge u (hfin u hu).1 y hy
      exact ⟨hfin' y this.1, this.2⟩
    fin_same := fun u y hu hy e => h.fin_same u y (hfin u hu).1 (hfin y hy).1 e
    cnt := by
      intro c hcl
      have := h.cnt c hcl
      refine ⟨?_, this.2⟩
      rw [show (visit s v).size = s.size from rfl, this.1]
      refine cntTo_congr _ ?_
      intro u _
      simp only [inComp, visit]
      by_cases e : u = v
      · subst e; simp [upd_same, h0]
      · simp only [upd_ne _ _ e]
    num := by
      have := cntTo_ins (fun u => (s.idx u != 0)) (fun u => (upd s.idx v (s.count + 1) u != 0)) v g.n hn (by simp [h0]) (by simp [upd_same]) (by intro u hu; rw [upd_ne _ _ hu])
      simp only [visit]
      rw [this, ← h.num]
    sum := by
      have := h.sum
      simp only [visit, List.length_cons]
      omega }

theorem mu_visit {g : Gr} {X : Nat → Prop} {s : St} {v : Nat} (h : InvX g X s) (h0 : s.idx v = 0) (hn : v < g.n) : mu g (visit s v) = mu g s := by
  have := h.count_lt h0 hn
  simp only [mu, visit, List.length_cons]
  omega
/-- A NODE THAT HEADS NO COMPONENT IS DONE. -/
def drop (s : St) : St := { s with calls := s.calls.tail }
theorem drop_inv {g : Gr} {s : St} (h : Inv g s) {v : Nat} {cs : List Nat} (hc : s.calls = v :: cs) (hk : s.nxt v = g.st (v + 1)) (hl : s.low v ≠ s.idx v)
    (hp : ∀ p cs', cs = p :: cs' → s.low p ≤ s.low v) : Inv g (drop s) := by
  have hvc : v ∈ s.calls := by rw [hc]; exact List.mem_cons_self
  have hlt : s.low v < s.idx v := by have := h.low_le v hvc; omega
  have ecs : (drop s).calls = cs := by simp only [drop, hc, List.tail_cons]
  have hsub : ∀ c, c ∈ cs → c ∈ s.calls := fun c hm => by rw [hc]; exact List.mem_cons_of_mem _ hm
  have hof : ∀ c, c ∈ s.calls → s.idx c < s.idx v → c ∈ cs := by
    intro c hm hlt'
    rw [hc] at hm
    rcases List.mem_cons.1 hm with e | hm
    · subst e; omega
    · exact hm
  obtain ⟨w, w1, w2, w3⟩ := h.low_to v hvc
  obtain ⟨q, q1, q2, q3⟩ := h.down w w1
  have hq : q ∈ cs := hof q q1 (by omega)
  obtain ⟨p, cs', hcs⟩ : ∃ p cs', cs = p :: cs' := by
    cases cs with
    | nil => cases hq
    | cons p cs' => exact ⟨p, cs', rfl⟩
  have hpl := hp p cs' hcs
  have hpc : p ∈ cs := by rw [hcs]; exact List.mem_cons_self
  have hmaxp : ∀ c, c ∈ cs → s.idx c ≤ s.idx p := by
    intro c hm
    have hs := h.calls_sorted
    rw [hc, List.pairwise_cons, hcs, List.pairwise_cons] at hs
    rw [hcs] at hm
    rcases List.mem_cons.1 hm with e | hm
    · subst e; exact Nat.le_refl _
    · exact Nat.le_of_lt (hs.2.1 c hm)
  exact {
    ons_iff := h.ons_iff, stk_vis := h.stk_vis, stk_sorted := h.stk_sorted, idx_le := h.idx_le, vis_lt := h.vis_lt
    calls_stk := fun c hm => h.calls_stk c (hsub c (by rw [ecs] at hm; exact hm))
    calls_sorted := by
      rw [ecs]
      have hs := h.calls_sorted
      rw [hc, List.pairwise_cons] at hs
      exact hs.2
    nxt_ge := h.nxt_ge, nxt_le := h.nxt_le
    nxt_fin := by
      intro u hu hm
      rw [ecs] at hm
      by_cases e : u = v
      · subst e; exact hk
      · refine h.nxt_fin u hu ?_
        rw [hc, List.mem_cons]
        exact fun hh => hh.elim e hm
    nxt_new := h.nxt_new
    up := fun c hm => h.up c (hsub c (by rw [ecs] at hm; exact hm))
    down := by
      intro x hx
      rw [ecs]
      obtain ⟨c, c1, c2, c3⟩ := h.down x hx
      by_cases e : c = v
      · subst e
        exact ⟨q, hq, by simp only [drop]; omega, (c3.trans w3).trans q3⟩
      · refine ⟨c, ?_, c2, c3⟩
        rw [hc, List.mem_cons] at c1
        exact c1.resolve_left e
    low_le := fun c hm => h.low_le c (hsub c (by rw [ecs] at hm; exact hm))
    low_to := fun c hm => h.low_to c (hsub c (by rw [ecs] at hm; exact hm))
    done_vis := h.done_vis
    low_ge := by
      intro c hm x hx hcx hmax e hd ht
      rw [ecs] at hm hmax
      show s.low c ≤ s.idx (g.to e)
      have hcx' : s.idx c ≤ s.idx x := hcx
      by_cases hvx : s.idx v ≤ s.idx x
      · -- x lay in v's own part of the stack
        have h1 := h.low_ge v hvc x hx hvx (fun c' hc' _ => h.top_le hc c' hc') e hd ht
        have h2 : s.idx p ≤ s.idx c := hmax p hpc (by have := h.top hc p hpc; simp only [drop]; omega)
        have h3 := hmaxp c hm
        have e1 : c = p := by
          have hs := h.calls_sorted
          rw [hc, List.pairwise_cons, hcs, List.pairwise_cons] at hs
          rw [hcs] at hm
          rcases List.mem_cons.1 hm with e | hm
          · exact e
          · have := hs.2.1 c hm; omega
        rw [e1]
        omega
      · refine h.low_ge c (hsub c hm) x hx hcx' ?_ e hd ht
        intro c' hc' hcx''
        exact hmax c' (hof c' hc' (by omega)) hcx''
    fin_lt := h.fin_lt, fin_edge := h.fin_edge, fin_same := h.fin_same, cnt := h.cnt, num := h.num, sum := h.sum }

theorem mu_drop {g : Gr} {s : St} {v : Nat} {cs : List Nat} (hc : s.calls = v :: cs) : mu g (drop s) + 1 = mu g s := by
  simp only [mu, drop, hc, List.tail_cons, List.length_cons]
  omega

/-- A COMPONENT IS TAKEN OFF THE STACK: the nodes 'C' above and at its head. -/
def take (s : St) (C rest : List Nat) : St :=
  { s with calls := s.calls.tail, stk := rest, ons := fun u => if u ∈ C then false else s.ons u, comp := fun u => if u ∈ C then s.size.length else s.comp u, size := s.size ++ [C.length] }

theorem take_inv {g : Gr} {s : St} (h : Inv g s) {v : Nat} {cs pre rest : List Nat} (hc : s.calls = v :: cs) (hk : s.nxt v = g.st (v + 1)) (hl : s.low v = s.idx v)
    (hs : s.stk = pre ++ v :: rest) : Inv g (take s (pre ++ [v]) rest) := by
  have hvc : v ∈ s.calls := by rw [hc]; exact List.mem_cons_self
  have ecs : (take s (pre ++ [v]) rest).calls = cs := by simp only [take, hc, List.tail_cons]
  have hsub : ∀ c, c ∈ cs → c ∈ s.calls := fun c hm => by rw [hc]; exact List.mem_cons_of_mem _ hm
  have hof : ∀ c, c ∈ s.calls → s.idx c < s.idx v → c ∈ cs := by
    intro c hm hlt'
    rw [hc] at hm
    rcases List.mem_cons.1 hm with e | hm
    · subst e; omega
    · exact hm
  have hsort := h.stk_sorted
  rw [hs, List.pairwise_append, List.pairwise_cons] at hsort
  have hpre : ∀ x, x ∈ pre → s.idx v < s.idx x := fun x hx => hsort.2.2 x hx v List.mem_cons_self
  have hrest : ∀ x, x ∈ rest → s.idx x < s.idx v := fun x hx => hsort.2.1.1 x hx
  have hmem : ∀ x, x ∈ s.stk ↔ x ∈ pre ++ [v] ∨ x ∈ rest := by
    intro x
    rw [hs]
    simp only [List.mem_append, List.mem_cons, List.not_mem_nil, or_false]
    constructor
    · rintro (a | a | a)
      · exact .inl (.inl a)
      · exact .inl (.inr a)
      · exact .inr a
    · rintro ((a | a) | a)
      · exact .inl a
      · exact .inr (.inl a)
      · exact .inr (.inr a)
  have hC : ∀ x, x ∈ pre ++ [v] → s.idx v ≤ s.idx x := by
    intro x hx
    simp only [List.mem_append, List.mem_cons, List.not_mem_nil, or_false] at hx
    rcases hx with hx | rfl
    · exact Nat.le_of_lt (hpre x hx)
    · exact Nat.le_refl _
  have hCs : ∀ x, x ∈ pre ++ [v] → x ∈ s.stk := fun x hx => (hmem x).2 (.inl hx)
  have hRs : ∀ x, x ∈ rest → x ∈ s.stk := fun x hx => (hmem x).2 (.inr hx)
  have hRC : ∀ x, x ∈ rest → x ∉ pre ++ [v] := fun x hx hx' => by have := hrest x hx; have := hC x hx'; omega
  have hvC : v ∈ pre ++ [v] := by simp
  have hgray : ∀ x, x ∈ pre ++ [v] → x ∈ s.calls → x = v := by
    intro x hx hm
    rw [hc] at hm
    rcases List.mem_cons.1 hm with e | hm
    · exact e
    · have := h.top hc x hm
      have := hC x hx
      omega
  -- every edge out of the component leads into it, or to a node that is done with
  have hclosed : ∀ x, x ∈ pre ++ [v] → ∀ y, Edge g x y → y ∈ pre ++ [v] ∨ Fin s y := by
    intro x hx y ⟨hxn, e, e1, e2, e3, e4⟩
    have hxs := hCs x hx
    have hnx : s.nxt x = g.st (x + 1) := by
      by_cases exv : x = v
      · rw [exv]; exact hk
      · exact h.nxt_fin x (h.stk_vis x hxs) (fun hm => exv (hgray x hx hm))
    have hd : Done g s x e := ⟨e1, by omega, e3⟩
    have hvy := (h.done_vis x e (h.stk_vis x hxs) hd).resolve_right (fun f => f)
    rw [e4] at hvy
    by_cases hy : y ∈ s.stk
    · have := h.low_ge v hvc x hxs (hC x hx) (fun c' hc' _ => h.top_le hc c' hc') e hd (by rw [e4]; exact hy)
      rw [e4] at this
      rcases (hmem y).1 hy with hy | hy
      · exact .inl hy
      · have := hrest y hy; omega
    · refine .inr ⟨hvy, ?_⟩
      cases ho : s.ons y with
      | false => rfl
      | true => exact absurd ((h.ons_iff y).2 ho) hy
  have hfin_not : ∀ y, Fin s y → y ∉ s.stk := fun y hy hm => by have := (h.ons_iff y).1 hm; rw [hy.2] at this; cases this
  have hback : ∀ x, x ∈ pre ++ [v] → Reach g x v := by
    intro x hx
    obtain ⟨c, c1, c2, c3⟩ := h.down x (hCs x hx)
    have hin := c3 (fun z => z ∈ pre ++ [v] ∨ Fin s z) (.inl hx) (by
      intro a b ha hab
      rcases ha with ha | ha
      · exact hclosed a ha b hab
      · exact .inr (h.fin_edge a ha b hab).1)
    rcases hin with hin | hin
    · rw [hgray c hin c1] at c3
      exact c3
    · exact absurd (h.calls_stk c c1) (hfin_not c hin)
  have hforth : ∀ x, x ∈ pre ++ [v] → Reach g v x := fun x hx => h.up v hvc x (hCs x hx) (hC x hx)
  -- who is done with now
  have hfin : ∀ u, Fin (take s (pre ++ [v]) rest) u ↔ u ∈ pre ++ [v] ∨ Fin s u := by
    intro u
    constructor
    · intro ⟨f1, f2⟩
      by_cases hu : u ∈ pre ++ [v]
      · exact .inl hu
      · simp only [take, hu, if_false] at f1 f2
        exact .inr ⟨f1, f2⟩
    · intro hu
      by_cases hC' : u ∈ pre ++ [v]
      · exact ⟨h.stk_vis u (hCs u hC'), by simp only [take, hC', if_true]⟩
      · have := hu.resolve_left hC'
        exact ⟨this.1, by simp only [take, hC', if_false]; exact this.2⟩
  have hcomp : ∀ u, u ∈ pre ++ [v] → (take s (pre ++ [v]) rest).comp u = s.size.length := fun u hu => by simp only [take, hu, if_true]
  have hcomp' : ∀ u, u ∉ pre ++ [v] → (take s (pre ++ [v]) rest).comp u = s.comp u := fun u hu => by simp only [take, hu, if_false]
  have hfinC : ∀ u, Fin s u → u ∉ pre ++ [v] := fun u hu hm => hfin_not u hu (hCs u hm)
  have hnd : (pre ++ [v]).Nodup := by
    have := h.stk_nodup
    rw [hs, show pre ++ v :: rest = (pre ++ [v]) ++ rest from by simp] at this
    exact (List.nodup_append.1 this).1
  exact {
    ons_iff := by
      intro u
      show u ∈ rest ↔ (if u ∈ pre ++ [v] then false else s.ons u) = true
      by_cases hu : u ∈ pre ++ [v]
      · rw [if_pos hu]
        constructor
        · intro hr; exact absurd hu (hRC u hr)
        · intro hr; cases hr
      · rw [if_neg hu, ← h.ons_iff u, hmem u]
        constructor
        · exact fun hr => .inr hr
        · exact fun hr => hr.resolve_left hu
    stk_vis := fun u hu => h.stk_vis u (hRs u hu)
    stk_sorted := hsort.2.1.2
    idx_le := h.idx_le, vis_lt := h.vis_lt
    calls_stk := by
      intro c hm
      rw [ecs] at hm
      rcases (hmem c).1 (h.calls_stk c (hsub c hm)) with hh | hh
      · have := h.top hc c hm
        have := hC c hh
        omega
      · exact hh
    calls_sorted := by
      rw [ecs]
      have hs := h.calls_sorted
      rw [hc, List.pairwise_cons] at hs
      exact hs.2
    nxt_ge := h.nxt_ge, nxt_le := h.nxt_le
    nxt_fin := by
      intro u hu hm
      rw [ecs] at hm
      by_cases e : u = v
      · subst e; exact hk
      · refine h.nxt_fin u hu ?_
        rw [hc, List.mem_cons]
        exact fun hh => hh.elim e hm
    nxt_new := h.nxt_new
    up := fun c hm y hy => h.up c (hsub c (by rw [ecs] at hm; exact hm)) y (hRs y hy)
    down := by
      intro x hx
      rw [ecs]
      obtain ⟨c, c1, c2, c3⟩ := h.down x (hRs x hx)
      exact ⟨c, hof c c1 (by have := hrest x hx; omega), c2, c3⟩
    low_le := fun c hm => h.low_le c (hsub c (by rw [ecs] at hm; exact hm))
    low_to := by
      intro c hm
      rw [ecs] at hm
      obtain ⟨w, w1, w2, w3⟩ := h.low_to c (hsub c hm)
      refine ⟨w, ?_, w2, w3⟩
      rcases (hmem w).1 w1 with hh | hh
      · have h1 := hC w hh
        have h2 := h.top hc c hm
        have h3 := h.low_le c (hsub c hm)
        omega
      · exact hh
    done_vis := h.done_vis
    low_ge := by
      intro c hm x hx hcx hmax e hd ht
      rw [ecs] at hm hmax
      refine h.low_ge c (hsub c hm) x (hRs x hx) hcx ?_ e hd (hRs _ ht)
      intro c' hc' hcx'
      exact hmax c' (hof c' hc' (by have := hrest x hx; omega)) hcx'
    fin_lt := by
      intro u hu
      have el : (take s (pre ++ [v]) rest).size.length = s.size.length + 1 := by simp [take]
      rw [el]
      by_cases hC' : u ∈ pre ++ [v]
      · rw [hcomp u hC']; omega
      · rw [hcomp' u hC']
        have := h.fin_lt u (((hfin u).1 hu).resolve_left hC')
        omega
    fin_edge := by
      intro u hu y hy
      by_cases hC' : u ∈ pre ++ [v]
      · rw [hcomp u hC']
        rcases hclosed u hC' y hy with hh | hh
        · exact ⟨(hfin y).2 (.inl hh), by rw [hcomp y hh]; exact Nat.le_refl _⟩
        · exact ⟨(hfin y).2 (.inr hh), by rw [hcomp' y (hfinC y hh)]; exact Nat.le_of_lt (h.fin_lt y hh)⟩
      · have hf := ((hfin u).1 hu).resolve_left hC'
        have := h.fin_edge u hf y hy
        exact ⟨(hfin y).2 (.inr this.1), by rw [hcomp' u hC', hcomp' y (hfinC y this.1)]; exact this.2⟩
    fin_same := by
      intro u y hu hy he
      by_cases hu' : u ∈ pre ++ [v]
      · by_cases hy' : y ∈ pre ++ [v]
        · exact (hback u hu').trans (hforth y hy')
        · rw [hcomp u hu', hcomp' y hy'] at he
          have := h.fin_lt y (((hfin y).1 hy).resolve_left hy')
          omega
      · have fu := ((hfin u).1 hu).resolve_left hu'
        by_cases hy' : y ∈ pre ++ [v]
        · rw [hcomp' u hu', hcomp y hy'] at he
          have := h.fin_lt u fu
          omega
        · rw [hcomp' u hu', hcomp' y hy'] at he
          exact h.fin_same u y fu (((hfin y).1 hy).resolve_left hy') he
    cnt := by
      intro c hcl
      have el : (take s (pre ++ [v]) rest).size = s.size ++ [(pre ++ [v]).length] := rfl
      rw [el] at hcl ⊢
      rw [List.length_append, List.length_cons, List.length_nil] at hcl
      by_cases hcs : c < s.size.length
      · rw [show (s.size ++ [(pre ++ [v]).length]).getD c 0 = s.size.getD c 0 from by simp [List.getD_eq_getElem?_getD, List.getElem?_append_left hcs]]
        refine ⟨?_, (h.cnt c hcs).2⟩
        rw [(h.cnt c hcs).1]
        refine cntTo_congr _ ?_
        intro u _
        by_cases hu : u ∈ pre ++ [v]
        · have h1 := (h.ons_iff u).1 (hCs u hu)
          have h2 := hcomp u hu
          simp only [inComp, h1, h2]
          have : ¬ s.size.length = c := by omega
          simp [this]
        · have h2 := hcomp' u hu
          simp only [inComp, h2]
          simp only [take, hu, if_false]
      · have ec : c = s.size.length := by omega
        subst ec
        rw [show (s.size ++ [(pre ++ [v]).length]).getD s.size.length 0 = (pre ++ [v]).length from by simp [List.getD_eq_getElem?_getD]]
        refine ⟨?_, by simp⟩
        rw [← cntTo_mem g.n (pre ++ [v]) hnd (fun x hx => h.stk_lt (hCs x hx))]
        refine cntTo_congr _ ?_
        intro u _
        by_cases hu : u ∈ pre ++ [v]
        · have h1 := h.stk_vis u (hCs u hu)
          have h2 := hcomp u hu
          simp only [inComp, h2]
          simp only [take, hu, if_true]
          simp [h1]
        · have h2 := hcomp' u hu
          simp only [inComp, h2]
          simp only [take, hu, if_false]
          by_cases hf : Fin s u
          · have h3 := h.fin_lt u hf
            have : ¬ s.comp u = s.size.length := by omega
            simp [this]
          · have : ((s.idx u != 0) && !s.ons u) = false := by
              cases hx : ((s.idx u != 0) && !s.ons u) with
              | false => rfl
              | true =>
                simp only [Bool.and_eq_true, bne_iff_ne, Bool.not_eq_true'] at hx
                exact absurd hx hf
            simp [this]
    num := h.num
    sum := by
      have := h.sum
      rw [hs] at this
      simp only [take, List.sum_append, List.sum_cons, List.sum_nil, List.length_append, List.length_cons, List.length_nil] at this ⊢
      omega }

theorem mu_take {g : Gr} {s : St} {v : Nat} {cs C rest : List Nat} (hc : s.calls = v :: cs) : mu g (take s C rest) + 1 = mu g s := by
  simp only [mu, take, hc, List.tail_cons, List.length_cons]
  omega

/-! ### the ends -/
def init (g : Gr) : St := { comp := fun _ => 0, idx := fun _ => 0, low := fun _ => 0, ons := fun _ => false, nxt := g.st, stk := [], calls := [], count := 0, size := [] }
theorem init_inv {g : Gr} {m : Nat} (hw : g.Wf m) : Inv g (init g) := {
  ons_iff := by intro u; simp [init]
  stk_vis := by intro u hu; simp [init] at hu
  stk_sorted := List.Pairwise.nil
  idx_le := fun _ => Nat.le_refl _
  vis_lt := fun u hu => absurd rfl hu
  calls_stk := by intro u hu; simp [init] at hu
  calls_sorted := List.Pairwise.nil
  nxt_ge := fun _ => Nat.le_refl _
  nxt_le := fun u hu => hw.mono u hu
  nxt_fin := fun u hu => absurd rfl hu
  nxt_new := fun _ _ => rfl
  up := by intro u hu; simp [init] at hu
  down := by intro u hu; simp [init] at hu
  low_le := by intro u hu; simp [init] at hu
  low_to := by intro u hu; simp [init] at hu
  done_vis := fun x _ hx => absurd rfl hx
  low_ge := by intro u hu; simp [init] at hu
  fin_lt := fun u hu => absurd rfl hu.1
  fin_edge := fun u hu => absurd rfl hu.1
  fin_same := fun u _ hu => absurd rfl hu.1
  cnt := by intro c hc; simp [init] at hc
  num := by rw [cntTo_false _ _ (by intro u _; simp [init])]; rfl
  sum := rfl }

theorem InvX.stk_nil {g : Gr} {X : Nat → Prop} {s : St} (h : InvX g X s) (hc : s.calls = []) : s.stk = [] := by
  cases hs : s.stk with
  | nil => rfl
  | cons x r =>
    obtain ⟨c, c1, _, _⟩ := h.down x (by rw [hs]; exact List.mem_cons_self)
    rw [hc] at c1
    cases c1

/-- What the end says: every node has its component. -/
structure Res (g : Gr) (comp : Nat → Nat) (size : List Nat) : Prop where
  lt : ∀ u, u < g.n → comp u < size.length
  len : size.length ≤ g.n
  cnt : ∀ c, c < size.length → size.getD c 0 = cntTo (fun u => (comp u == c)) g.n ∧ 1 ≤ size.getD c 0
  edge : ∀ u v, Edge g u v → comp v ≤ comp u
  same : ∀ u v, u < g.n → v < g.n → (comp u = comp v ↔ Reach g u v ∧ Reach g v u)

theorem res_of {g : Gr} {s : St} (h : Inv g s) (hc : s.calls = []) (hall : ∀ u, u < g.n → s.idx u ≠ 0) : Res g s.comp s.size := by
  have hs := h.stk_nil hc
  have hfin : ∀ u, u < g.n → Fin s u := by
    intro u hu
    refine ⟨hall u hu, ?_⟩
    cases ho : s.ons u with
    | false => rfl
    | true => have := (h.ons_iff u).2 ho; rw [hs] at this; cases this
  have hle : ∀ u v, u < g.n → Reach g u v → Fin s v ∧ s.comp v ≤ s.comp u := by
    intro u v hu hr
    refine hr (fun z => Fin s z ∧ s.comp z ≤ s.comp u) ⟨hfin u hu, Nat.le_refl _⟩ ?_
    intro a b ha hab
    have := h.fin_edge a ha.1 b hab
    exact ⟨this.1, Nat.le_trans this.2 ha.2⟩
  refine ⟨fun u hu => h.fin_lt u (hfin u hu), h.size_len, ?_, fun u v he => (h.fin_edge u (hfin u he.1) v he).2, ?_⟩
  · intro c hcl
    refine ⟨?_, (h.cnt c hcl).2⟩
    rw [(h.cnt c hcl).1]
    refine cntTo_congr _ ?_
    intro u hu
    have := hfin u hu
    simp only [inComp, this.2]
    simp [this.1]
  · intro u v hu hv
    constructor
    · intro e
      exact ⟨h.fin_same u v (hfin u hu) (hfin v hv) e, h.fin_same v u (hfin v hv) (hfin u hu) e.symm⟩
    · intro ⟨r1, r2⟩
      have h1 := (hle u v hu r1).2
      have h2 := (hle v u hv r2).2
      omega

end Go.Proofs.Qxb6001346a.Tj
