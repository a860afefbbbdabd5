/-
  PLAIN LAWS (no Go in sight): the reverse graph made by counting, and the search by a queue, as FnComponentsAreMutualReachability makes them.
-/
import Derived.Test.Qxb6001346aTarjan
set_option linter.all false
namespace Go.Proofs.Qxb6001346a.Tj

/-! ### the search by a queue -/
/-- What holds at the head of the outer loop ('cur = none': every edge of the first 'head' nodes has been looked at) and of the inner one ('cur = some e': of the last of them only the edges before e). -/
structure Bfs (g : Gr) (u : Nat) (mk : Nat → Bool) (q : Nat → Nat) (head tail : Nat) (cur : Option Nat) : Prop where
  first : mk u = true
  le : head ≤ tail
  num : tail = cntTo mk g.n
  lt : ∀ x, mk x = true → x < g.n
  q_mk : ∀ i, i < tail → mk (q i) = true
  mk_q : ∀ x, mk x = true → ∃ i, i < tail ∧ q i = x
  reach : ∀ x, mk x = true → Reach g u x
  closed : ∀ i e, i < head → g.st (q i) ≤ e → e < g.st (q i + 1) → g.ok e = true → (i + 1 = head → ∀ c, cur = some c → e < c) → mk (g.to e) = true

theorem cntTo_one (u : Nat) (n : Nat) (h : u < n) : cntTo (fun x => x == u) n = 1 := by
  have := cntTo_ins (fun _ => false) (fun x => x == u) u n h rfl (by simp) (by intro x hx; simp [hx])
  rw [this, cntTo_false _ _ (fun _ _ => rfl)]

theorem bfs_start {g : Gr} {u : Nat} (hu : u < g.n) (q : Nat → Nat) (hq : q 0 = u) : Bfs g u (fun x => x == u) q 0 1 none where
  first := by simp
  le := by omega
  num := (cntTo_one u g.n hu).symm
  lt := by intro x hx; simp only [beq_iff_eq] at hx; omega
  q_mk := by intro i hi; have : i = 0 := by omega
             subst this; simp [hq]
  mk_q := by intro x hx; simp only [beq_iff_eq] at hx; exact ⟨0, by omega, by rw [hq, hx]⟩
  reach := by intro x hx; simp only [beq_iff_eq] at hx; subst hx; exact Reach.refl _ _
  closed := by intro i e hi; omega

theorem Bfs.tail_le {g : Gr} {u : Nat} {mk : Nat → Bool} {q : Nat → Nat} {head tail : Nat} {cur : Option Nat} (h : Bfs g u mk q head tail cur) : tail ≤ g.n := by rw [h.num]; exact cntTo_le _ _
theorem Bfs.tail_lt {g : Gr} {u : Nat} {mk : Nat → Bool} {q : Nat → Nat} {head tail : Nat} {cur : Option Nat} (h : Bfs g u mk q head tail cur) {x : Nat} (hx : x < g.n) (hm : mk x = false) : tail < g.n := by
  rw [h.num]; exact cntTo_lt _ x _ hx hm
theorem Bfs.q_lt {g : Gr} {u : Nat} {mk : Nat → Bool} {q : Nat → Nat} {head tail : Nat} {cur : Option Nat} (h : Bfs g u mk q head tail cur) {i : Nat} (hi : i < tail) : q i < g.n := h.lt _ (h.q_mk i hi)

/-- The next node is taken off the queue. -/
theorem Bfs.next {g : Gr} {u : Nat} {mk : Nat → Bool} {q : Nat → Nat} {head tail : Nat} (h : Bfs g u mk q head tail none) (hl : head < tail) : Bfs g u mk q (head + 1) tail (some (g.st (q head))) where
  first := h.first
  le := hl
  num := h.num
  lt := h.lt
  q_mk := h.q_mk
  mk_q := h.mk_q
  reach := h.reach
  closed := by
    intro i e hi e1 e2 e3 e4
    by_cases hh : i = head
    · subst hh
      have := e4 rfl _ rfl
      omega
    · exact h.closed i e (by omega) e1 e2 e3 (fun _ c hc => by cases hc)

/-- All its edges have been looked at. -/
theorem Bfs.done {g : Gr} {u : Nat} {mk : Nat → Bool} {q : Nat → Nat} {head tail c : Nat} (h : Bfs g u mk q (head + 1) tail (some c)) (hc : g.st (q head + 1) ≤ c) : Bfs g u mk q (head + 1) tail none where
  first := h.first
  le := h.le
  num := h.num
  lt := h.lt
  q_mk := h.q_mk
  mk_q := h.mk_q
  reach := h.reach
  closed := by
    intro i e hi e1 e2 e3 _
    refine h.closed i e hi e1 e2 e3 ?_
    intro hh c' hc'
    obtain rfl : i = head := by omega
    cases hc'
    omega

/-- An edge that does not count, or leads to a marked node. -/
theorem Bfs.pass {g : Gr} {u : Nat} {mk : Nat → Bool} {q : Nat → Nat} {head tail c : Nat} (h : Bfs g u mk q (head + 1) tail (some c)) (hm : g.ok c = true → mk (g.to c) = true) : Bfs g u mk q (head + 1) tail (some (c + 1)) where
  first := h.first
  le := h.le
  num := h.num
  lt := h.lt
  q_mk := h.q_mk
  mk_q := h.mk_q
  reach := h.reach
  closed := by
    intro i e hi e1 e2 e3 e4
    by_cases hh : e = c
    · subst hh; exact hm e3
    · refine h.closed i e hi e1 e2 e3 ?_
      intro h1 c' hc'
      cases hc'
      have := e4 h1 _ rfl
      omega

/-- An edge to a node that is not marked yet: it is marked and joins the queue. -/
theorem Bfs.push {g : Gr} {u : Nat} {mk : Nat → Bool} {q : Nat → Nat} {head tail c : Nat} (h : Bfs g u mk q (head + 1) tail (some c)) (h1 : g.st (q head) ≤ c) (h2 : c < g.st (q head + 1)) (ho : g.ok c = true)
    (hn : g.to c < g.n) (hm : mk (g.to c) = false) : Bfs g u (upd mk (g.to c) true) (upd q tail (g.to c)) (head + 1) (tail + 1) (some (c + 1)) := by
  have hlt : head < tail := h.le
  have hmono : ∀ x, mk x = true → upd mk (g.to c) true x = true := by
    intro x hx
    by_cases e : x = g.to c
    · subst e; exact upd_same _ _ _
    · rw [upd_ne _ _ e]; exact hx
  exact {
    first := hmono _ h.first
    le := by omega
    num := by
      rw [cntTo_ins mk (upd mk (g.to c) true) (g.to c) g.n hn hm (upd_same _ _ _) (fun x hx => upd_ne _ _ hx), ← h.num]
    lt := by
      intro x hx
      by_cases e : x = g.to c
      · subst e; exact hn
      · rw [upd_ne _ _ e] at hx; exact h.lt x hx
    q_mk := by
      intro i hi
      by_cases e : i = tail
      · subst e; rw [upd_same, upd_same]
      · rw [upd_ne _ _ e]; exact hmono _ (h.q_mk i (by omega))
    mk_q := by
      intro x hx
      by_cases e : x = g.to c
      · subst e; exact ⟨tail, by omega, upd_same _ _ _⟩
      · rw [upd_ne _ _ e] at hx
        obtain ⟨i, i1, i2⟩ := h.mk_q x hx
        exact ⟨i, by omega, by rw [upd_ne _ _ (by omega)]; exact i2⟩
    reach := by
      intro x hx
      by_cases e : x = g.to c
      · subst e
        exact (h.reach _ (h.q_mk head hlt)).trans (Reach.edge ⟨h.q_lt hlt, c, h1, h2, ho, rfl⟩)
      · rw [upd_ne _ _ e] at hx; exact h.reach x hx
    closed := by
      intro i e hi e1 e2 e3 e4
      rw [upd_ne _ _ (by omega : i ≠ tail)] at e1 e2
      by_cases hh : e = c
      · subst hh; exact upd_same _ _ _
      · refine hmono _ (h.closed i e hi e1 e2 e3 ?_)
        intro h1 c' hc'
        cases hc'
        have := e4 h1 _ rfl
        omega }

/-- The queue is empty: the marks are the nodes that are reached. -/
theorem Bfs.final {g : Gr} {u : Nat} {mk : Nat → Bool} {q : Nat → Nat} {head tail : Nat} (h : Bfs g u mk q head tail none) (hl : tail ≤ head) (x : Nat) : mk x = true ↔ Reach g u x := by
  constructor
  · exact h.reach x
  · intro hr
    refine hr (fun z => mk z = true) h.first ?_
    intro a b ha ⟨_, e, e1, e2, e3, e4⟩
    obtain ⟨i, i1, i2⟩ := h.mk_q a ha
    rw [← e4]
    exact h.closed i e (by omega) (by rw [i2]; exact e1) (by rw [i2]; exact e2) e3 (fun _ c hc => by cases hc)

/-! ### the reverse graph -/
/-- How many of the edges before k count and lead to v. -/
def cin (g : Gr) (v k : Nat) : Nat := cntTo (fun e => g.ok e && g.to e == v) k
theorem cin_hit {g : Gr} {k : Nat} (ho : g.ok k = true) : cin g (g.to k) (k + 1) = cin g (g.to k) k + 1 := by simp [cin, cntTo, ho]
theorem cin_other {g : Gr} {k v : Nat} (ho : g.ok k = true) (h : v ≠ g.to k) : cin g v (k + 1) = cin g v k := by
  have : ¬ g.to k = v := fun e => h e.symm
  simp [cin, cntTo, ho, this]
theorem cin_miss {g : Gr} {k v : Nat} (ho : g.ok k = false) : cin g v (k + 1) = cin g v k := by simp [cin, cntTo, ho]
theorem cin_step (g : Gr) (v k : Nat) : cin g v k ≤ cin g v (k + 1) := by simp only [cin, cntTo]; omega
theorem cin_mono (g : Gr) (v : Nat) : ∀ d k, cin g v k ≤ cin g v (k + d)
  | 0, _ => Nat.le_refl _
  | d + 1, k => Nat.le_trans (cin_mono g v d k) (cin_step g v (k + d))
theorem cin_le (g : Gr) (v : Nat) {a b : Nat} (h : a ≤ b) : cin g v a ≤ cin g v b := by
  have := cin_mono g v (b - a) a
  rwa [Nat.add_sub_cancel' h] at this
/-- Where the sources of v's edges begin. -/
def pre (g : Gr) (m v : Nat) : Nat := sumTo (fun i => cin g i m) v
theorem pre_succ (g : Gr) (m v : Nat) : pre g m (v + 1) = pre g m v + cin g v m := rfl
theorem pre_mono (g : Gr) (m : Nat) : ∀ d v, pre g m v ≤ pre g m (v + d)
  | 0, _ => Nat.le_refl _
  | d + 1, v => Nat.le_trans (pre_mono g m d v) (by rw [← Nat.add_assoc, pre_succ]; omega)
theorem pre_le (g : Gr) (m : Nat) {a b : Nat} (h : a ≤ b) : pre g m a ≤ pre g m b := by
  have := pre_mono g m (b - a) a
  rwa [Nat.add_sub_cancel' h] at this
/-- The place of an edge that counts. -/
theorem place_lt {g : Gr} {m k : Nat} (hk : k < m) (ho : g.ok k = true) : pre g m (g.to k) + cin g (g.to k) k < pre g m (g.to k + 1) := by
  rw [pre_succ]
  have := cin_le g (g.to k) (show k + 1 ≤ m from hk)
  rw [cin_hit ho] at this
  omega
/-- How many edges count: at most as many as there are. -/
theorem pre_total (g : Gr) (k : Nat) : ∀ n, pre g k n = cntTo (fun e => g.ok e && decide (g.to e < n)) k := by
  intro n
  induction k with
  | zero =>
    induction n with
    | zero => rfl
    | succ n ih => rw [pre_succ, ih]; simp [cin, cntTo]
  | succ k ih =>
    have e1 : cntTo (fun e => g.ok e && decide (g.to e < n)) (k + 1) = cntTo (fun e => g.ok e && decide (g.to e < n)) k + (if (g.ok k && decide (g.to k < n)) = true then 1 else 0) := rfl
    rw [e1, ← ih]
    by_cases ho : g.ok k = true
    · by_cases ht : g.to k < n
      · have := sumTo_upd (fun i => cin g i k) (fun i => cin g i (k + 1)) (g.to k) n ht (fun u hu => cin_other ho hu)
        rw [cin_hit ho] at this
        rw [if_pos (by simp [ho, ht])]
        simp only [pre]
        omega
      · rw [if_neg (by simp [ht])]
        exact sumTo_congr n (fun u hu => cin_other ho (by omega))
    · have ho' : g.ok k = false := by simpa using ho
      rw [if_neg (by simp [ho'])]
      exact sumTo_congr n (fun u _ => cin_miss ho')
theorem pre_le_m (g : Gr) (m n : Nat) : pre g m n ≤ m := by rw [pre_total]; exact cntTo_le _ _

/-- What 'rfrom' holds when the edges before k have been laid. -/
structure Laid (g : Gr) (m k : Nat) (rf : Nat → Nat) : Prop where
  has : ∀ u e, u < g.n → g.st u ≤ e → e < g.st (u + 1) → e < k → g.ok e = true → rf (pre g m (g.to e) + cin g (g.to e) e) = u
  only : ∀ v p, pre g m v ≤ p → p < pre g m v + cin g v k → ∃ u, Edge g u v ∧ rf p = u
theorem laid_start (g : Gr) (m : Nat) (rf : Nat → Nat) : Laid g m 0 rf where
  has := by intro u e _ _ _ h; omega
  only := by intro v p h1 h2; simp [cin, cntTo] at h2; omega
theorem laid_miss {g : Gr} {m k : Nat} {rf : Nat → Nat} (h : Laid g m k rf) (ho : g.ok k = false) : Laid g m (k + 1) rf where
  has := by
    intro u e h1 h2 h3 h4 h5
    refine h.has u e h1 h2 h3 ?_ h5
    have : e ≠ k := by intro e'; subst e'; rw [ho] at h5; cases h5
    omega
  only := by intro v p h1 h2; rw [cin_miss ho] at h2; exact h.only v p h1 h2
theorem place_inj {g : Gr} {m k v p : Nat} (hk : k < m) (ho : g.ok k = true) (h1 : pre g m v ≤ p) (h2 : p < pre g m v + cin g v k) : p ≠ pre g m (g.to k) + cin g (g.to k) k := by
  intro e
  have hv : p < pre g m (v + 1) := by rw [pre_succ]; have := cin_le g v (Nat.le_of_lt hk); omega
  have hp := place_lt hk ho
  by_cases hvt : v = g.to k
  · subst hvt; omega
  · by_cases hlt : v < g.to k
    · have := pre_le g m (show v + 1 ≤ g.to k from hlt)
      omega
    · have := pre_le g m (show g.to k + 1 ≤ v from by omega)
      omega
theorem laid_hit {g : Gr} {m k u : Nat} {rf : Nat → Nat} (h : Laid g m k rf) (hk : k < m) (ho : g.ok k = true) (hu : u < g.n) (h1 : g.st u ≤ k) (h2 : k < g.st (u + 1))
    (huniq : ∀ u', u' < g.n → g.st u' ≤ k → k < g.st (u' + 1) → u' = u) : Laid g m (k + 1) (upd rf (pre g m (g.to k) + cin g (g.to k) k) u) where
  has := by
    intro u' e h3 h4 h5 h6 h7
    by_cases hek : e = k
    · subst hek
      rw [upd_same]
      exact (huniq u' h3 h4 h5).symm
    · have hc : cin g (g.to e) e < cin g (g.to e) k := by
        have := cin_le g (g.to e) (show e + 1 ≤ k from by omega)
        rw [cin_hit h7] at this
        omega
      rw [upd_ne _ _ (place_inj hk ho (v := g.to e) (by omega) (by omega))]
      exact h.has u' e h3 h4 h5 (by omega) h7
  only := by
    intro v p h3 h4
    by_cases hp : p = pre g m (g.to k) + cin g (g.to k) k
    · rw [hp, upd_same]
      have hv : v = g.to k := by
        have hpl := place_lt hk ho
        have hv1 : p < pre g m (v + 1) := by rw [pre_succ]; have := cin_le g v (show k + 1 ≤ m from hk); omega
        by_cases hlt : v < g.to k
        · have := pre_le g m (show v + 1 ≤ g.to k from hlt); omega
        · by_cases hgt : g.to k < v
          · have := pre_le g m (show g.to k + 1 ≤ v from hgt); omega
          · omega
      rw [hv]
      exact ⟨u, ⟨hu, k, h1, h2, ho, rfl⟩, rfl⟩
    · rw [upd_ne _ _ hp]
      refine h.only v p h3 ?_
      by_cases hv : v = g.to k
      · subst hv; rw [cin_hit ho] at h4; omega
      · rw [cin_other ho hv] at h4; exact h4

/-- The reverse graph, as a graph. -/
def rev (g : Gr) (m : Nat) (rf : Nat → Nat) : Gr := { n := g.n, st := pre g m, to := rf, ok := fun _ => true }
theorem rev_edge {g : Gr} {m : Nat} (hw : g.Wf m) {rf : Nat → Nat} (h : Laid g m m rf) (v u : Nat) (hv : v < g.n) : Edge (rev g m rf) v u ↔ Edge g u v := by
  constructor
  · intro ⟨_, p, p1, p2, _, p4⟩
    obtain ⟨u', e1, e2⟩ := h.only v p p1 (by rw [← pre_succ]; exact p2)
    have p4' : rf p = u := p4
    rw [e2] at p4'
    rw [← p4']
    exact e1
  · intro ⟨hu, e, e1, e2, e3, e4⟩
    have hem := hw.edge_lt hu e2
    have hp := place_lt hem e3
    rw [e4] at hp
    refine ⟨hv, pre g m v + cin g v e, Nat.le_add_right _ _, hp, rfl, ?_⟩
    have := h.has u e hu e1 e2 hem e3
    rw [e4] at this
    exact this
theorem edge_lt {g : Gr} {m : Nat} (hw : g.Wf m) {u v : Nat} (h : Edge g u v) : v < g.n := by
  obtain ⟨hu, e, _, e2, _, e4⟩ := h
  rw [← e4]
  exact hw.tgt e (hw.edge_lt hu e2)
theorem rev_reach {g : Gr} {m : Nat} (hw : g.Wf m) {rf : Nat → Nat} (h : Laid g m m rf) (v u : Nat) (hv : v < g.n) : Reach (rev g m rf) v u ↔ Reach g u v := by
  constructor
  · intro hr
    refine (hr (fun z => z < g.n ∧ Reach g z v) ⟨hv, Reach.refl _ _⟩ ?_).2
    intro a b ha hab
    have := (rev_edge hw h a b ha.1).1 hab
    exact ⟨this.1, (Reach.edge this).trans ha.2⟩
  · intro hr
    by_cases hu : u < g.n
    · -- by the set of those from which ... is reached backwards
      have key := hr (fun z => z < g.n ∧ Reach (rev g m rf) z u) ⟨hu, Reach.refl _ _⟩ (by
        intro a b ha hab
        have hb := edge_lt hw hab
        exact ⟨hb, (Reach.edge ((rev_edge hw h b a hb).2 hab)).trans ha.2⟩)
      exact key.2
    · -- u is no node: it has no edge
      have key := hr (fun z => z = u) rfl (by intro a b ha hab; have := hab.1; omega)
      rw [key]
      exact Reach.refl _ _

/-- The edges of u are u's alone. -/
theorem Gr.Wf.st_mono {g : Gr} {m : Nat} (hw : g.Wf m) : ∀ d i, i + d ≤ g.n → g.st i ≤ g.st (i + d)
  | 0, _, _ => Nat.le_refl _
  | d + 1, i, h => Nat.le_trans (hw.st_mono d i (by omega)) (hw.mono (i + d) (by omega))
theorem Gr.Wf.uniq {g : Gr} {m : Nat} (hw : g.Wf m) {u u' k : Nat} (hu : u < g.n) (hu' : u' < g.n) (h1 : g.st u ≤ k) (h2 : k < g.st (u + 1)) (h3 : g.st u' ≤ k) (h4 : k < g.st (u' + 1)) : u' = u := by
  by_cases a : u < u'
  · have := hw.st_mono (u' - (u + 1)) (u + 1) (by omega)
    rw [show u + 1 + (u' - (u + 1)) = u' from by omega] at this
    omega
  · by_cases b : u' < u
    · have := hw.st_mono (u - (u' + 1)) (u' + 1) (by omega)
      rw [show u' + 1 + (u - (u' + 1)) = u from by omega] at this
      omega
    · omega

end Go.Proofs.Qxb6001346a.Tj
