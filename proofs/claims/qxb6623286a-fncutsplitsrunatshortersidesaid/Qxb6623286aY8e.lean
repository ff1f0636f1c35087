import Derived.Test.Qxb6623286aY8
namespace Go.Proofs.Qxb6623286a
open Go.RowKit

set_option maxRecDepth 1000000 in
set_option maxHeartbeats 4000000 in
theorem wf_loop5 {c0 c1 c4 c5 c6 c7 c8 c9 c10 c11 c12 c13 c14 c15 c16 c17 c18 c20 c21 c22 c23 c24 c25 c26 c27 c28 c29 c33 c34 c35 c36 c37 c38 c39 c40 c41 c42 c43 c44 c45 c46 c47 c48 c49 c50 c51 c52 c53 c54 c55 c56 c57 c58 c59 c60 c61 c62 c63 c64 c65 c66 c67 c68 c69 c70 c71 c72 c73 c74 c75 c76 c77 c78 c79 c80 c81 c82 c83 c84 c85 c86 c87 c88 c89 c90 c91 c92 c93 c94 c95 c96 c97 c98 c99 c100 c101 c102 c103 c104 c105 c106 c107 c108 c109 c110 c111 c112 c113 c114 c115 c116 c117 c118 c119 c120 c121 c122 c123 c124 c125 c126 c127 c128 c129 c130 c131 c132 c133 c134 c135 c136 c137 c138 c139 c140 c141 c142 c143 c144 c145 c146 c147 c148 c149 c150 c151 c152 c153 c154 c155 c156 c157 c158 c159 c160 c161 c162 c163 c164 c165 c166 c167 c168 c169 c170 c171 c172 c173 c174 c175 c176 c177 c178 c179 c180 c181 c182 c183 c184 c185 c186 c187 c188 c189 c190 c191 c192 c193 c194 c195 c196 c197 c198 c199 c200 c201 c202 c203 c204 c205 c206 c207 c208 c209 c210 c211 c212 c213 c214 c215 c216 c217 c218 c219 c220 c221 c222 c223 c224 c225 c226 c227 c228 c229 c230 c231 c232 c233 c234 c235 c236 c237 c238 c239 c240 c241 c242 c243 c244 c245 c246 c247 c248 c249 c250 c251 c252 c253 c254 c255 c256 c257 c258 c259 c260 c261 c262 c263 c264 c265 c266 c267 c268 c269 c270 c271 c272 c273 c274 c275 c276 c277 c278 c279 c280 c281 c282 c283 c284 c285 c286 c287 c288 c289 c290 c291 c292 c293 c294 c295 c296 c297 c298 c299 : Value} (w w1 : World) (n mcp sc lnc xc c : Nat) (mb mo sb so xb xo : Nat) (mc ms nd : Nat → Int) (Q : Exit → Act → World → Prop)
    (HMC : Hid (∀ k, k < n → w.cell? ⟨mb, mo + k, none⟩ = some (.int .i32 (mc k)))) (HSC : Hid (∀ k, k < n → w.cell? ⟨sb, so + k, none⟩ = some (.int .i32 (ms k)))) (HXC : Hid (∀ k, k < lnc → w.cell? ⟨xb, xo + k, none⟩ = some (.int .i32 (nd k))))
    (hmb : mb < w.heap.size) (hsb : sb < w.heap.size) (hxb : xb < w.heap.size) (hn : (n : Int) ≤ 65536) (hcn : (c : Int) < 65536) (hln : (lnc : Int) ≤ 1048576)
    (HRM : Hid (∀ k, k < n → -2147483648 ≤ mc k ∧ mc k ≤ 2147483647)) (HRS : Hid (∀ k, k < n → -2147483648 ≤ ms k ∧ ms k ≤ 2147483647)) (HRN : Hid (∀ k, k < lnc → -2147483648 ≤ nd k ∧ nd k ≤ 2147483647))
    (hB : Below w.heap.size w w1)
    (hret : Hid (∀ a' w', Below w.heap.size w w' → a'.defers = [] → a'.tmps[18]? = some (.bool false) → Q .ret a' w'))
    (hexit : Hid (∀ {u18 u33 u204 u205 u206 u207 u208 u209 u210 u211 u212 u213 u214 u215 u216 u217 u218 u219 u220 u221 u222 u223 u224 u225 u226 u227 u228 u229 u230 u231 u232 u233 u234 u235 u236 u237 u238 u239 : Value}, (∀ k, k < lnc → ∃ u : Nat, u < n ∧ nd k = u ∧ mc u = c ∧ ms u = k) → Q (.exit 8) ⟨(c0 :: c1 :: (.slice (some ⟨mb, mo, none⟩) n mcp) :: (.slice (some ⟨sb, so, none⟩) n sc) :: c4 :: c5 :: c6 :: c7 :: c8 :: c9 :: c10 :: c11 :: c12 :: c13 :: c14 :: c15 :: c16 :: c17 :: u18 :: (.int .i64 n) :: c20 :: c21 :: c22 :: c23 :: c24 :: c25 :: c26 :: c27 :: c28 :: c29 :: (.int .i64 c) :: (.slice (some ⟨xb, xo, none⟩) lnc xc) :: (.int .i64 lnc) :: u33 :: c34 :: c35 :: c36 :: c37 :: c38 :: c39 :: c40 :: c41 :: c42 :: c43 :: c44 :: c45 :: c46 :: c47 :: c48 :: c49 :: c50 :: c51 :: c52 :: c53 :: c54 :: c55 :: c56 :: c57 :: c58 :: c59 :: c60 :: c61 :: c62 :: c63 :: c64 :: c65 :: c66 :: c67 :: c68 :: c69 :: c70 :: c71 :: c72 :: c73 :: c74 :: c75 :: c76 :: c77 :: c78 :: c79 :: c80 :: c81 :: c82 :: c83 :: c84 :: c85 :: c86 :: c87 :: c88 :: c89 :: c90 :: c91 :: c92 :: c93 :: c94 :: c95 :: c96 :: c97 :: c98 :: c99 :: c100 :: c101 :: c102 :: c103 :: c104 :: c105 :: c106 :: c107 :: c108 :: c109 :: c110 :: c111 :: c112 :: c113 :: c114 :: c115 :: c116 :: c117 :: c118 :: c119 :: c120 :: c121 :: c122 :: c123 :: c124 :: c125 :: c126 :: c127 :: c128 :: c129 :: c130 :: c131 :: c132 :: c133 :: c134 :: c135 :: c136 :: c137 :: c138 :: c139 :: c140 :: c141 :: c142 :: c143 :: c144 :: c145 :: c146 :: c147 :: c148 :: c149 :: c150 :: c151 :: c152 :: c153 :: c154 :: c155 :: c156 :: c157 :: c158 :: c159 :: c160 :: c161 :: c162 :: c163 :: c164 :: c165 :: c166 :: c167 :: c168 :: c169 :: c170 :: c171 :: c172 :: c173 :: c174 :: c175 :: c176 :: c177 :: c178 :: c179 :: c180 :: c181 :: c182 :: c183 :: c184 :: c185 :: c186 :: c187 :: c188 :: c189 :: c190 :: c191 :: c192 :: c193 :: c194 :: c195 :: c196 :: c197 :: c198 :: c199 :: c200 :: c201 :: c202 :: c203 :: u204 :: u205 :: u206 :: u207 :: u208 :: u209 :: u210 :: u211 :: u212 :: u213 :: u214 :: u215 :: u216 :: u217 :: u218 :: u219 :: u220 :: u221 :: u222 :: u223 :: u224 :: u225 :: u226 :: u227 :: u228 :: u229 :: u230 :: u231 :: u232 :: u233 :: u234 :: u235 :: u236 :: u237 :: u238 :: u239 :: c240 :: c241 :: c242 :: c243 :: c244 :: c245 :: c246 :: c247 :: c248 :: c249 :: c250 :: c251 :: c252 :: c253 :: c254 :: c255 :: c256 :: c257 :: c258 :: c259 :: c260 :: c261 :: c262 :: c263 :: c264 :: c265 :: c266 :: c267 :: c268 :: c269 :: c270 :: c271 :: c272 :: c273 :: c274 :: c275 :: c276 :: c277 :: c278 :: c279 :: c280 :: c281 :: c282 :: c283 :: c284 :: c285 :: c286 :: c287 :: c288 :: c289 :: c290 :: c291 :: c292 :: c293 :: c294 :: c295 :: c296 :: c297 :: c298 :: c299 :: []).toArray, []⟩ w1)) :
    Code.wp Try.prog (Code.loop (body5 4)) Q ⟨(c0 :: c1 :: (.slice (some ⟨mb, mo, none⟩) n mcp) :: (.slice (some ⟨sb, so, none⟩) n sc) :: c4 :: c5 :: c6 :: c7 :: c8 :: c9 :: c10 :: c11 :: c12 :: c13 :: c14 :: c15 :: c16 :: c17 :: c18 :: (.int .i64 n) :: c20 :: c21 :: c22 :: c23 :: c24 :: c25 :: c26 :: c27 :: c28 :: c29 :: (.int .i64 c) :: (.slice (some ⟨xb, xo, none⟩) lnc xc) :: (.int .i64 0) :: c33 :: c34 :: c35 :: c36 :: c37 :: c38 :: c39 :: c40 :: c41 :: c42 :: c43 :: c44 :: c45 :: c46 :: c47 :: c48 :: c49 :: c50 :: c51 :: c52 :: c53 :: c54 :: c55 :: c56 :: c57 :: c58 :: c59 :: c60 :: c61 :: c62 :: c63 :: c64 :: c65 :: c66 :: c67 :: c68 :: c69 :: c70 :: c71 :: c72 :: c73 :: c74 :: c75 :: c76 :: c77 :: c78 :: c79 :: c80 :: c81 :: c82 :: c83 :: c84 :: c85 :: c86 :: c87 :: c88 :: c89 :: c90 :: c91 :: c92 :: c93 :: c94 :: c95 :: c96 :: c97 :: c98 :: c99 :: c100 :: c101 :: c102 :: c103 :: c104 :: c105 :: c106 :: c107 :: c108 :: c109 :: c110 :: c111 :: c112 :: c113 :: c114 :: c115 :: c116 :: c117 :: c118 :: c119 :: c120 :: c121 :: c122 :: c123 :: c124 :: c125 :: c126 :: c127 :: c128 :: c129 :: c130 :: c131 :: c132 :: c133 :: c134 :: c135 :: c136 :: c137 :: c138 :: c139 :: c140 :: c141 :: c142 :: c143 :: c144 :: c145 :: c146 :: c147 :: c148 :: c149 :: c150 :: c151 :: c152 :: c153 :: c154 :: c155 :: c156 :: c157 :: c158 :: c159 :: c160 :: c161 :: c162 :: c163 :: c164 :: c165 :: c166 :: c167 :: c168 :: c169 :: c170 :: c171 :: c172 :: c173 :: c174 :: c175 :: c176 :: c177 :: c178 :: c179 :: c180 :: c181 :: c182 :: c183 :: c184 :: c185 :: c186 :: c187 :: c188 :: c189 :: c190 :: c191 :: c192 :: c193 :: c194 :: c195 :: c196 :: c197 :: c198 :: c199 :: c200 :: c201 :: c202 :: c203 :: c204 :: c205 :: c206 :: c207 :: c208 :: c209 :: c210 :: c211 :: c212 :: c213 :: c214 :: c215 :: c216 :: c217 :: c218 :: c219 :: c220 :: c221 :: c222 :: c223 :: c224 :: c225 :: c226 :: c227 :: c228 :: c229 :: c230 :: c231 :: c232 :: c233 :: c234 :: c235 :: c236 :: c237 :: c238 :: c239 :: c240 :: c241 :: c242 :: c243 :: c244 :: c245 :: c246 :: c247 :: c248 :: c249 :: c250 :: c251 :: c252 :: c253 :: c254 :: c255 :: c256 :: c257 :: c258 :: c259 :: c260 :: c261 :: c262 :: c263 :: c264 :: c265 :: c266 :: c267 :: c268 :: c269 :: c270 :: c271 :: c272 :: c273 :: c274 :: c275 :: c276 :: c277 :: c278 :: c279 :: c280 :: c281 :: c282 :: c283 :: c284 :: c285 :: c286 :: c287 :: c288 :: c289 :: c290 :: c291 :: c292 :: c293 :: c294 :: c295 :: c296 :: c297 :: c298 :: c299 :: []).toArray, []⟩ w1 := by
  conv => arg 2; arg 1; whnf
  have HB := Lib.hid hB
  clear hB
  go_loopw [32] (fun zi wr => ∃ i : Nat, zi = .int .i64 i ∧ (i : Int) ≤ lnc ∧ w1 = wr ∧ Hid (∀ k, k < i → ∃ u : Nat, u < n ∧ nd k = u ∧ mc u = c ∧ ms u = k)) (fun zi _ => lnc - (intOf zi).toNat)
  case atStart => exact ⟨0, rfl, by omega, rfl, fun k hk => absurd hk (by omega)⟩
  case round =>
    obtain ⟨i, rfl, hi, hw, HI⟩ := hrel
    subst hw
    by_cases hlt : i < lnc
    · have b0 : (i : Int) < lnc := by omega
      have g1 : w1.cell? ⟨xb, xo + i, none⟩ = some (.int .i32 (nd i)) := by rw [HB.out.cell (p := ⟨xb, xo + i, none⟩) hxb]; exact HXC.out i hlt
      obtain ⟨r1, r2⟩ := HRN.out i hlt
      by_cases t1 : nd i < 0
      · go_wp2
        exact hret.out _ _ HB.out rfl rfl
      · by_cases t2 : (n : Int) ≤ nd i
        · go_wp2
          exact hret.out _ _ HB.out rfl rfl
        · obtain ⟨u, hu⟩ : ∃ u : Nat, nd i = u := ⟨(nd i).toNat, by omega⟩
          have hun : u < n := by omega
          have hun' : (u : Int) < n := by omega
          rw [hu] at g1
          have g2 : w1.cell? ⟨mb, mo + u, none⟩ = some (.int .i32 (mc u)) := by rw [HB.out.cell (p := ⟨mb, mo + u, none⟩) hmb]; exact HMC.out u hun
          have g3 : w1.cell? ⟨sb, so + u, none⟩ = some (.int .i32 (ms u)) := by rw [HB.out.cell (p := ⟨sb, so + u, none⟩) hsb]; exact HSC.out u hun
          obtain ⟨r3, r4⟩ := HRM.out u hun
          obtain ⟨r5, r6⟩ := HRS.out u hun
          have HU := Lib.hid hu
          clear hu t1 t2 r1 r2
          by_cases t3 : mc u = c
          · rw [t3] at g2
            have HM := Lib.hid t3
            clear t3 r3 r4
            by_cases t4 : ms u = i
            · rw [t4] at g3
              have HS := Lib.hid t4
              clear t4 r5 r6
              have HF2 : Hid (∀ k, k < i + 1 → ∃ u : Nat, u < n ∧ nd k = u ∧ mc u = c ∧ ms u = k) := fun k hk => by
                by_cases e : k = i
                · subst e; exact ⟨u, hun, HU.out, HM.out, HS.out⟩
                · exact HI.out k (by omega)
              go_wp2
              go_roundw
              case rel => exact ⟨i + 1, by go_num, by omega, trivial, HF2⟩
              case measure => simp [intOf]; omega
            · have t4' : (ms u != (i : Int)) = true := by simpa using t4
              go_wp2
              exact hret.out _ _ HB.out rfl rfl
          · have t3' : (mc u != (c : Int)) = true := by simpa using t3
            go_wp2
            exact hret.out _ _ HB.out rfl rfl
    · have e0 : i = lnc := by omega
      subst e0
      go_wp2
      exact hexit.out HI.out
end Go.Proofs.Qxb6623286a
