/-
  THE OUTER LOOP OF components.
-/
import Derived.Test.Qxb6001346aInner
set_option linter.all false
namespace Go.Proofs.Qxb6001346a
open Go.RowKit Tj
attribute [local go_sem ↓] Go.wp_at_zero Go.wp_at_succ

set_option maxRecDepth 1000000 in
set_option maxHeartbeats 4000000 in
theorem outer_loop {w wr0 : World} {E : Ev} {m bs os cs : Nat} {at' : Option Addr} {ct : Nat} {ak : Option Addr} {ck : Nat} {g : Gr} {kd : Nat → Int} {mask : Int} (G : GW w E.gg E.n m bs os cs at' ct ak ck g kd mask) (vZ0 : Value) (Q0 : Exit → Act → World → Prop)
    (hexit : ∀ wr s vS vK vZ, Rep E w wr s vS vK vZ → Inv g s → s.calls = [] → (∀ u, u < E.n → s.idx u ≠ 0) → ∀ c3 c14 c15 c16 c17 c18 c19 c20 c21 c22 c23 c24 c25 c26 c27 c28 c29 c30 c31 c32 c33 c34 c35 c36 c37 c38 c39 c40 c41 c42 c43 c44 c45 c46 c47 c48 c49 c50 c51 c52 c53 c54 c55 c56 c57 c58 c59 c60 c61 c62 c63 c64 c65 c66 c67 c68 c69 c70 c71 c72 c73 c74 c75 c76 c77 c78 c79 c80 c81 c82 c83 c84 c85 c86 c87 c88 c89 c90 c91 c92 c93 c94 c95 c96 c97 c98 c99 c100 c101 c102 c103 c104 c105 c106 c107 c108 c109 c110 c111 c112 c113 c114 c115 c116 c117 c118 c119 c120 c121 c122 c123 c124 c125 c126 c127 c128 c129 c130 c131 c132 c133 c134 c135 c136 c137 c138 c139 c140 c141 c142 c143 c144 c145 c146 c147 c148 c149 c150 c151 c152 c153 c154 c155 c156 c157 c158 c159 c160 c161 c162 c163 c164 c165 c166 c167 c168 c169 c170 c171 c172 c173 c174 c175 c176 c177 c178 c179 c180 c181 c182 c183 c184 c185 c186 c187 c188 c189 c190 c191 c192 c193 c194 c195 c196 c197 c198 c199 c200 c201 c202 : Value, Q0 (.exit 0) ⟨(List.toArray ((.pointer (some ⟨E.gg, 0, none⟩)) :: (.int .u8 mask) :: (.pointer (some ⟨E.bG, 0, none⟩)) :: c3 :: (.slice (some ⟨E.gM, 0, none⟩) E.n E.n) :: vZ :: (.int .i64 (E.n : Int)) :: (.pointer (some ⟨E.bI, 0, none⟩)) :: (.pointer (some ⟨E.bL, 0, none⟩)) :: (.pointer (some ⟨E.bO, 0, none⟩)) :: (.pointer (some ⟨E.bS, 0, none⟩)) :: (.pointer (some ⟨E.bC, 0, none⟩)) :: (.pointer (some ⟨E.bN, 0, none⟩)) :: (.func (.func 43) #[] #[.pointer (some ⟨E.bN, 0, none⟩), .pointer (some ⟨E.bI, 0, none⟩), .pointer (some ⟨E.bL, 0, none⟩), .pointer (some ⟨E.bS, 0, none⟩), .pointer (some ⟨E.bO, 0, none⟩), .pointer (some ⟨E.bC, 0, none⟩), .pointer (some ⟨E.bG, 0, none⟩)]) :: c14 :: c15 :: c16 :: c17 :: c18 :: c19 :: c20 :: c21 :: c22 :: c23 :: c24 :: c25 :: c26 :: c27 :: c28 :: c29 :: c30 :: c31 :: c32 :: c33 :: c34 :: c35 :: c36 :: c37 :: c38 :: c39 :: c40 :: c41 :: c42 :: c43 :: c44 :: c45 :: c46 :: c47 :: c48 :: c49 :: c50 :: c51 :: c52 :: c53 :: c54 :: c55 :: c56 :: c57 :: c58 :: c59 :: c60 :: c61 :: c62 :: c63 :: c64 :: c65 :: c66 :: c67 :: c68 :: c69 :: c70 :: c71 :: c72 :: c73 :: c74 :: c75 :: c76 :: c77 :: c78 :: c79 :: c80 :: c81 :: c82 :: c83 :: c84 :: c85 :: c86 :: c87 :: c88 :: c89 :: c90 :: c91 :: c92 :: c93 :: c94 :: c95 :: c96 :: c97 :: c98 :: c99 :: c100 :: c101 :: c102 :: c103 :: c104 :: c105 :: c106 :: c107 :: c108 :: c109 :: c110 :: c111 :: c112 :: c113 :: c114 :: c115 :: c116 :: c117 :: c118 :: c119 :: c120 :: c121 :: c122 :: c123 :: c124 :: c125 :: c126 :: c127 :: c128 :: c129 :: c130 :: c131 :: c132 :: c133 :: c134 :: c135 :: c136 :: c137 :: c138 :: c139 :: c140 :: c141 :: c142 :: c143 :: c144 :: c145 :: c146 :: c147 :: c148 :: c149 :: c150 :: c151 :: c152 :: c153 :: c154 :: c155 :: c156 :: c157 :: c158 :: c159 :: c160 :: c161 :: c162 :: c163 :: c164 :: c165 :: c166 :: c167 :: c168 :: c169 :: c170 :: c171 :: c172 :: c173 :: c174 :: c175 :: c176 :: c177 :: c178 :: c179 :: c180 :: c181 :: c182 :: c183 :: c184 :: c185 :: c186 :: c187 :: c188 :: c189 :: c190 :: c191 :: c192 :: c193 :: c194 :: c195 :: c196 :: c197 :: c198 :: c199 :: c200 :: c201 :: c202 :: [])), []⟩ wr)
    (s0 : St) (vS0 vK0 : Value) (h0 : Rep E w wr0 s0 vS0 vK0 vZ0) (hi0 : Inv g s0) (hc0 : s0.calls = []) (c3 c15 c16 c17 c18 c19 c20 c21 c22 c23 c24 c25 c26 c27 c28 c29 c30 c31 c32 c33 c34 c35 c36 c37 c38 c39 c40 c41 c42 c43 c44 c45 c46 c47 c48 c49 c50 c51 c52 c53 c54 c55 c56 c57 c58 c59 c60 c61 c62 c63 c64 c65 c66 c67 c68 c69 c70 c71 c72 c73 c74 c75 c76 c77 c78 c79 c80 c81 c82 c83 c84 c85 c86 c87 c88 c89 c90 c91 c92 c93 c94 c95 c96 c97 c98 c99 c100 c101 c102 c103 c104 c105 c106 c107 c108 c109 c110 c111 c112 c113 c114 c115 c116 c117 c118 c119 c120 c121 c122 c123 c124 c125 c126 c127 c128 c129 c130 c131 c132 c133 c134 c135 c136 c137 c138 c139 c140 c141 c142 c143 c144 c145 c146 c147 c148 c149 c150 c151 c152 c153 c154 c155 c156 c157 c158 c159 c160 c161 c162 c163 c164 c165 c166 c167 c168 c169 c170 c171 c172 c173 c174 c175 c176 c177 c178 c179 c180 c181 c182 c183 c184 c185 c186 c187 c188 c189 c190 c191 c192 c193 c194 c195 c196 c197 c198 c199 c200 c201 c202 : Value) :
    Code.wp Try.prog (Code.loop ((Try.f37.body.bind firstLoop).getD .skip)) Q0 ⟨(List.toArray ((.pointer (some ⟨E.gg, 0, none⟩)) :: (.int .u8 mask) :: (.pointer (some ⟨E.bG, 0, none⟩)) :: c3 :: (.slice (some ⟨E.gM, 0, none⟩) E.n E.n) :: vZ0 :: (.int .i64 (E.n : Int)) :: (.pointer (some ⟨E.bI, 0, none⟩)) :: (.pointer (some ⟨E.bL, 0, none⟩)) :: (.pointer (some ⟨E.bO, 0, none⟩)) :: (.pointer (some ⟨E.bS, 0, none⟩)) :: (.pointer (some ⟨E.bC, 0, none⟩)) :: (.pointer (some ⟨E.bN, 0, none⟩)) :: (.func (.func 43) #[] #[.pointer (some ⟨E.bN, 0, none⟩), .pointer (some ⟨E.bI, 0, none⟩), .pointer (some ⟨E.bL, 0, none⟩), .pointer (some ⟨E.bS, 0, none⟩), .pointer (some ⟨E.bO, 0, none⟩), .pointer (some ⟨E.bC, 0, none⟩), .pointer (some ⟨E.bG, 0, none⟩)]) :: (.int .i32 0) :: c15 :: c16 :: c17 :: c18 :: c19 :: c20 :: c21 :: c22 :: c23 :: c24 :: c25 :: c26 :: c27 :: c28 :: c29 :: c30 :: c31 :: c32 :: c33 :: c34 :: c35 :: c36 :: c37 :: c38 :: c39 :: c40 :: c41 :: c42 :: c43 :: c44 :: c45 :: c46 :: c47 :: c48 :: c49 :: c50 :: c51 :: c52 :: c53 :: c54 :: c55 :: c56 :: c57 :: c58 :: c59 :: c60 :: c61 :: c62 :: c63 :: c64 :: c65 :: c66 :: c67 :: c68 :: c69 :: c70 :: c71 :: c72 :: c73 :: c74 :: c75 :: c76 :: c77 :: c78 :: c79 :: c80 :: c81 :: c82 :: c83 :: c84 :: c85 :: c86 :: c87 :: c88 :: c89 :: c90 :: c91 :: c92 :: c93 :: c94 :: c95 :: c96 :: c97 :: c98 :: c99 :: c100 :: c101 :: c102 :: c103 :: c104 :: c105 :: c106 :: c107 :: c108 :: c109 :: c110 :: c111 :: c112 :: c113 :: c114 :: c115 :: c116 :: c117 :: c118 :: c119 :: c120 :: c121 :: c122 :: c123 :: c124 :: c125 :: c126 :: c127 :: c128 :: c129 :: c130 :: c131 :: c132 :: c133 :: c134 :: c135 :: c136 :: c137 :: c138 :: c139 :: c140 :: c141 :: c142 :: c143 :: c144 :: c145 :: c146 :: c147 :: c148 :: c149 :: c150 :: c151 :: c152 :: c153 :: c154 :: c155 :: c156 :: c157 :: c158 :: c159 :: c160 :: c161 :: c162 :: c163 :: c164 :: c165 :: c166 :: c167 :: c168 :: c169 :: c170 :: c171 :: c172 :: c173 :: c174 :: c175 :: c176 :: c177 :: c178 :: c179 :: c180 :: c181 :: c182 :: c183 :: c184 :: c185 :: c186 :: c187 :: c188 :: c189 :: c190 :: c191 :: c192 :: c193 :: c194 :: c195 :: c196 :: c197 :: c198 :: c199 :: c200 :: c201 :: c202 :: [])), []⟩ wr0 := by
  conv => arg 2; arg 1; whnf
  go_loopg [14, 5] E.n (fun k x z wr => ∃ (j : Nat) (s : St) (vS vK : Value), j ≤ E.n ∧ x = .int .i32 (j : Int) ∧ k = E.n - j ∧ Rep E w wr s vS vK z ∧ Inv g s ∧ s.calls = [] ∧ ∀ u, u < j → s.idx u ≠ 0)
  case atStart => exact ⟨0, s0, vS0, vK0, Nat.zero_le _, rfl, rfl, h0, hi0, hc0, fun u hu => by omega⟩
  case round =>
    obtain ⟨j, s, vS, vK, hj, rfl, hk, h, hi, hc, hv⟩ := hrel
    have HK : Hid (gk = E.n - j) := hk
    have HV : Hid (∀ u, u < j → s.idx u ≠ 0) := hv
    have HC : Hid (s.calls = []) := hc
    have HE := hide' hexit
    have hnn := G.n_le
    clear hk hv hc h0 hi0 hc0 hexit
    by_cases hlt : j < E.n
    · have cI := h.boxI.cell
      have aI : wr.cell? ⟨E.gI, j, none⟩ = some (.int .i32 (s.idx j : Int)) := h.arrI.cell hlt
      by_cases hz : s.idx j = 0
      · have tz : ((s.idx j : Int) != 0) = false := by rw [hz]; rfl
        have hjg : j < g.n := by rw [G.n_eq]; exact hlt
        obtain ⟨hi1, hnx⟩ := Tj.start_visit hi HC.out hjg hz
        have HNX : Hid (s.nxt j = g.st j) := hnx
        have hcnt : s.count < 4096 := by have := hi.count_lt hz hjg; have := G.n_eq; omega
        have hls : s.stk.length ≤ 4096 := by have := hi.sum; omega
        have hlk : s.calls.length ≤ 4096 := by have := hi.calls_len; have := G.n_eq; omega
        have HV1 : Hid (∀ u, u ≤ j → (Tj.visit s j).idx u ≠ 0) := by
          intro u hu
          by_cases e : u = j
          · subst e; simp only [Tj.visit, upd_same]; omega
          · simp only [Tj.visit, upd_ne _ _ e]; exact HV.out u (by omega)
        clear hnx hz
        go_wp2_with (go_at_call 43; refine (visit_any E w wr s vS _ u5 h j hlt hnn hcnt hls hlk bs os cs (g.st j) G.gg_lt G.bs_lt G.c0 (G.start j (by omega)) HNX.out).mono ?_)
        rintro e' w3 ⟨rfl, vS3, vK3, h3⟩
        clear cI aI tz hcnt hls hlk
        go_wp2_with fail
        refine inner_loop G j _ _ _ _ _ _ _ _ _ _ _ _ _ _ _ _ _ _ _ _ _ _ _ _ _ _ _ _ _ _ ?_ (Tj.visit s j) vS3 vK3 h3 hi1 HV1.out _ _ _ _ _ _ _ _ _ _ _ _ _ _ _ _ _ _ _ _ _ _ _ _ _ _ _ _ _ _ _ _ _ _ _ _ _ _ _ _ _ _ _ _ _ _ _ _ _ _ _ _ _ _ _ _ _ _ _ _ _ _ _ _ _ _ _ _ _ _ _ _ _ _ _ _ _ _ _ _ _ _ _ _ _ _ _ _ _ _ _ _ _ _ _ _ _ _ _ _ _ _ _ _ _ _ _ _ _ _ _ _ _ _ _ _ _ _ _ _ _ _ _ _ _ _ _ _ _ _ _ _ _ _ _ _ _ _ _ _ _ _ _ _ _ _ _ _ _ _ _ _ _ _ _ _ _ _ _ _ _
        intro wr' s' vS' vK' vZ' hr' hi' hc' hv' d15 d16 d17 d18 d19 d20 d21 d22 d48 d49 d50 d51 d52 d53 d54 d55 d56 d57 d58 d59 d60 d61 d62 d63 d64 d65 d66 d67 d68 d69 d70 d71 d72 d73 d74 d75 d76 d77 d78 d79 d80 d81 d82 d83 d84 d85 d86 d87 d88 d89 d90 d91 d92 d93 d94 d95 d96 d97 d98 d99 d100 d101 d102 d103 d104 d105 d106 d107 d108 d109 d110 d111 d112 d113 d114 d115 d116 d117 d118 d119 d120 d121 d122 d123 d124 d125 d126 d127 d128 d129 d130 d131 d132 d133 d134 d135 d136 d137 d138 d139 d140 d141 d142 d143 d144 d145 d146 d147 d148 d149 d150 d151 d152 d153 d154 d155 d156 d157 d158 d159 d160 d161 d162 d163 d164 d165 d166 d167 d168 d169 d170 d171 d172 d173 d174 d175 d176 d177 d178 d179 d180 d181 d182 d183 d184 d185 d186 d187 d188 d189 d190 d191 d192 d193 d194 d195 d196 d197 d198 d199 d200
        have HC' : Hid (s'.calls = []) := hc'
        have HV' : Hid (∀ u, u ≤ j → s'.idx u ≠ 0) := hv'
        clear hc' hv' h3 hi1 h
        go_wp2_with fail
        go_roundg (E.n - (j + 1))
        case measure => rw [HK.out]; omega
        case rel => exact ⟨j + 1, s', vS', vK', by omega, by go_num, rfl, hr', hi', HC'.out, fun u hu => HV'.out u (by omega)⟩
      · have tz : ((s.idx j : Int) != 0) = true := by rw [bne_iff_ne]; omega
        have HZ : Hid (s.idx j ≠ 0) := hz
        clear hz
        go_wp2_with fail
        go_roundg (E.n - (j + 1))
        case measure => rw [HK.out]; omega
        case rel =>
          refine ⟨j + 1, s, vS, vK, by omega, by go_num, rfl, h, hi, HC.out, fun u hu => ?_⟩
          by_cases e : u = j
          · subst e; exact HZ.out
          · exact HV.out u (by omega)
    · go_wp2_with fail
      exact HE.out _ s _ _ _ h hi HC.out (fun u hu => HV.out u (by omega)) _ _ _ _ _ _ _ _ _ _ _ _ _ _ _ _ _ _ _ _ _ _ _ _ _ _ _ _ _ _ _ _ _ _ _ _ _ _ _ _ _ _ _ _ _ _ _ _ _ _ _ _ _ _ _ _ _ _ _ _ _ _ _ _ _ _ _ _ _ _ _ _ _ _ _ _ _ _ _ _ _ _ _ _ _ _ _ _ _ _ _ _ _ _ _ _ _ _ _ _ _ _ _ _ _ _ _ _ _ _ _ _ _ _ _ _ _ _ _ _ _ _ _ _ _ _ _ _ _ _ _ _ _ _ _ _ _ _ _ _ _ _ _ _ _ _ _ _ _ _ _ _ _ _ _ _ _ _ _ _ _ _ _ _ _ _ _ _ _ _ _ _ _ _ _ _ _ _ _ _ _ _ _ _ _ _ _ _ _ _
end Go.Proofs.Qxb6001346a
