import Derived.Test.Qxb6623286aY8
import Derived.Test.Qxb6623286aY2
namespace Go.Proofs.Qxb6623286a
open Go.RowKit

set_option maxRecDepth 1000000 in
set_option maxHeartbeats 4000000 in
theorem wf_loop3 {c0 c1 c4 c5 c7 c8 c9 c10 c11 c12 c13 c14 c15 c16 c17 c18 c21 c22 c24 c25 c27 c28 c29 c30 c31 c32 c33 c34 c35 c36 c37 c38 c39 c40 c41 c42 c43 c44 c45 c46 c47 c48 c49 c50 c51 c52 c53 c54 c55 c56 c57 c58 c59 c60 c61 c62 c63 c64 c65 c66 c67 c68 c69 c70 c71 c72 c73 c74 c75 c76 c77 c78 c79 c80 c81 c82 c83 c84 c85 c86 c87 c88 c89 c90 c91 c92 c93 c94 c95 c96 c97 c98 c99 c100 c101 c102 c103 c104 c105 c106 c107 c108 c109 c110 c111 c112 c113 c114 c115 c116 c117 c118 c119 c120 c121 c122 c123 c124 c125 c126 c127 c128 c129 c130 c131 c132 c133 c134 c135 c136 c137 c138 c139 c140 c141 c142 c143 c144 c145 c146 c147 c148 c149 c150 c151 c152 c153 c154 c155 c156 c157 c158 c159 c160 c161 c162 c163 c164 c165 c166 c167 c168 c169 c170 c171 c172 c173 c174 c175 c176 c177 c178 c179 c180 c181 c182 c183 c184 c185 c186 c187 c188 c189 c190 c191 c192 c193 c194 c195 c196 c197 c198 c199 c200 c201 c202 c203 c204 c205 c206 c207 c208 c209 c210 c211 c212 c213 c214 c215 c216 c217 c218 c219 c220 c221 c222 c223 c224 c225 c226 c227 c228 c229 c230 c231 c232 c233 c234 c235 c236 c237 c238 c239 c240 c241 c242 c243 c244 c245 c246 c247 c248 c249 c250 c251 c252 c253 c254 c255 c256 c257 c258 c259 c260 c261 c262 c263 c264 c265 c266 c267 c268 c269 c270 c271 c272 c273 c274 c275 c276 c277 c278 c279 c280 c281 c282 c283 c284 c285 c286 c287 c288 c289 c290 c291 c292 c293 c294 c295 c296 c297 c298 c299 : Value} (w w1 : World) (n nc mcp sc ncp mb mo sb so eb : Nat) (na : Option Addr) (mc ms : Nat → Int) (isb : Nat → Bool) (r : Nat → Value) (ln : Nat → Nat) (nd : Nat → Nat → Int) (Q : Exit → Act → World → Prop)
    (HMC : Hid (∀ k, k < n → w.cell? ⟨mb, mo + k, none⟩ = some (.int .i32 (mc k)))) (HSC : Hid (∀ k, k < n → w.cell? ⟨sb, so + k, none⟩ = some (.int .i32 (ms k))))
    (HN : Hid (0 < nc → ∃ nb no, na = some ⟨nb, no, none⟩ ∧ nb < w.heap.size ∧ ∀ k, k < nc → w.cell? ⟨nb, no + k, none⟩ = some (r k)))
    (HRO : Hid (∀ k, k < nc → RowIn w (r k) (ln k) (nd k) ∧ ln k ≤ 1048576)) (hmb : mb < w.heap.size) (hsb : sb < w.heap.size)
    (HRM : Hid (∀ k, k < n → -2147483648 ≤ mc k ∧ mc k ≤ 2147483647)) (HRS : Hid (∀ k, k < n → -2147483648 ≤ ms k ∧ ms k ≤ 2147483647)) (HRN : Hid (∀ k j, k < nc → j < ln k → -2147483648 ≤ nd k j ∧ nd k j ≤ 2147483647))
    (hn : (n : Int) ≤ 65536) (hnc : (nc : Int) ≤ 65536) (hB : Below w.heap.size w w1) (hI : w1.rowIs eb 4 nc (fun c => .bool (isb c)))
    (hret : Hid (∀ a' w', Below w.heap.size w w' → a'.defers = [] → a'.tmps[18]? = some (.bool false) → Q .ret a' w'))
    (hexit : Hid (∀ {u18 u27 u28 u135 u136 u137 u138 u139 u140 u141 u142 u143 u144 u145 u146 u147 u148 u149 u150 u151 u152 u153 u154 u155 u156 u157 u158 u159 u160 u161 u162 u163 u164 u165 u166 u167 u168 u169 u170 u171 u172 u173 u174 u175 u176 u177 u178 u179 u180 u181 u182 u183 u184 u185 : Value}, (∀ x, x < n → ∃ c s : Nat, c < nc ∧ mc x = c ∧ isb c = false ∧ s < ln c ∧ ms x = s ∧ nd c s = x) → Q (.exit 4) ⟨(c0 :: c1 :: (.slice (some ⟨mb, mo, none⟩) n mcp) :: (.slice (some ⟨sb, so, none⟩) n sc) :: c4 :: c5 :: (.slice na nc ncp) :: c7 :: c8 :: c9 :: c10 :: c11 :: c12 :: c13 :: c14 :: c15 :: c16 :: c17 :: u18 :: (.int .i64 n) :: (.int .i64 nc) :: c21 :: c22 :: (.slice (some ⟨eb, 0, none⟩) nc nc) :: c24 :: c25 :: (.int .i64 n) :: u27 :: u28 :: c29 :: c30 :: c31 :: c32 :: c33 :: c34 :: c35 :: c36 :: c37 :: c38 :: c39 :: c40 :: c41 :: c42 :: c43 :: c44 :: c45 :: c46 :: c47 :: c48 :: c49 :: c50 :: c51 :: c52 :: c53 :: c54 :: c55 :: c56 :: c57 :: c58 :: c59 :: c60 :: c61 :: c62 :: c63 :: c64 :: c65 :: c66 :: c67 :: c68 :: c69 :: c70 :: c71 :: c72 :: c73 :: c74 :: c75 :: c76 :: c77 :: c78 :: c79 :: c80 :: c81 :: c82 :: c83 :: c84 :: c85 :: c86 :: c87 :: c88 :: c89 :: c90 :: c91 :: c92 :: c93 :: c94 :: c95 :: c96 :: c97 :: c98 :: c99 :: c100 :: c101 :: c102 :: c103 :: c104 :: c105 :: c106 :: c107 :: c108 :: c109 :: c110 :: c111 :: c112 :: c113 :: c114 :: c115 :: c116 :: c117 :: c118 :: c119 :: c120 :: c121 :: c122 :: c123 :: c124 :: c125 :: c126 :: c127 :: c128 :: c129 :: c130 :: c131 :: c132 :: c133 :: c134 :: u135 :: u136 :: u137 :: u138 :: u139 :: u140 :: u141 :: u142 :: u143 :: u144 :: u145 :: u146 :: u147 :: u148 :: u149 :: u150 :: u151 :: u152 :: u153 :: u154 :: u155 :: u156 :: u157 :: u158 :: u159 :: u160 :: u161 :: u162 :: u163 :: u164 :: u165 :: u166 :: u167 :: u168 :: u169 :: u170 :: u171 :: u172 :: u173 :: u174 :: u175 :: u176 :: u177 :: u178 :: u179 :: u180 :: u181 :: u182 :: u183 :: u184 :: u185 :: c186 :: c187 :: c188 :: c189 :: c190 :: c191 :: c192 :: c193 :: c194 :: c195 :: c196 :: c197 :: c198 :: c199 :: c200 :: c201 :: c202 :: c203 :: c204 :: c205 :: c206 :: c207 :: c208 :: c209 :: c210 :: c211 :: c212 :: c213 :: c214 :: c215 :: c216 :: c217 :: c218 :: c219 :: c220 :: c221 :: c222 :: c223 :: c224 :: c225 :: c226 :: c227 :: c228 :: c229 :: c230 :: c231 :: c232 :: c233 :: c234 :: c235 :: c236 :: c237 :: c238 :: c239 :: c240 :: c241 :: c242 :: c243 :: c244 :: c245 :: c246 :: c247 :: c248 :: c249 :: c250 :: c251 :: c252 :: c253 :: c254 :: c255 :: c256 :: c257 :: c258 :: c259 :: c260 :: c261 :: c262 :: c263 :: c264 :: c265 :: c266 :: c267 :: c268 :: c269 :: c270 :: c271 :: c272 :: c273 :: c274 :: c275 :: c276 :: c277 :: c278 :: c279 :: c280 :: c281 :: c282 :: c283 :: c284 :: c285 :: c286 :: c287 :: c288 :: c289 :: c290 :: c291 :: c292 :: c293 :: c294 :: c295 :: c296 :: c297 :: c298 :: c299 :: []).toArray, []⟩ w1)) :
    Code.wp Try.prog (Code.loop (body5 2)) Q ⟨(c0 :: c1 :: (.slice (some ⟨mb, mo, none⟩) n mcp) :: (.slice (some ⟨sb, so, none⟩) n sc) :: c4 :: c5 :: (.slice na nc ncp) :: c7 :: c8 :: c9 :: c10 :: c11 :: c12 :: c13 :: c14 :: c15 :: c16 :: c17 :: c18 :: (.int .i64 n) :: (.int .i64 nc) :: c21 :: c22 :: (.slice (some ⟨eb, 0, none⟩) nc nc) :: c24 :: c25 :: (.int .i64 0) :: c27 :: c28 :: c29 :: c30 :: c31 :: c32 :: c33 :: c34 :: c35 :: c36 :: c37 :: c38 :: c39 :: c40 :: c41 :: c42 :: c43 :: c44 :: c45 :: c46 :: c47 :: c48 :: c49 :: c50 :: c51 :: c52 :: c53 :: c54 :: c55 :: c56 :: c57 :: c58 :: c59 :: c60 :: c61 :: c62 :: c63 :: c64 :: c65 :: c66 :: c67 :: c68 :: c69 :: c70 :: c71 :: c72 :: c73 :: c74 :: c75 :: c76 :: c77 :: c78 :: c79 :: c80 :: c81 :: c82 :: c83 :: c84 :: c85 :: c86 :: c87 :: c88 :: c89 :: c90 :: c91 :: c92 :: c93 :: c94 :: c95 :: c96 :: c97 :: c98 :: c99 :: c100 :: c101 :: c102 :: c103 :: c104 :: c105 :: c106 :: c107 :: c108 :: c109 :: c110 :: c111 :: c112 :: c113 :: c114 :: c115 :: c116 :: c117 :: c118 :: c119 :: c120 :: c121 :: c122 :: c123 :: c124 :: c125 :: c126 :: c127 :: c128 :: c129 :: c130 :: c131 :: c132 :: c133 :: c134 :: c135 :: c136 :: c137 :: c138 :: c139 :: c140 :: c141 :: c142 :: c143 :: c144 :: c145 :: c146 :: c147 :: c148 :: c149 :: c150 :: c151 :: c152 :: c153 :: c154 :: c155 :: c156 :: c157 :: c158 :: c159 :: c160 :: c161 :: c162 :: c163 :: c164 :: c165 :: c166 :: c167 :: c168 :: c169 :: c170 :: c171 :: c172 :: c173 :: c174 :: c175 :: c176 :: c177 :: c178 :: c179 :: c180 :: c181 :: c182 :: c183 :: c184 :: c185 :: c186 :: c187 :: c188 :: c189 :: c190 :: c191 :: c192 :: c193 :: c194 :: c195 :: c196 :: c197 :: c198 :: c199 :: c200 :: c201 :: c202 :: c203 :: c204 :: c205 :: c206 :: c207 :: c208 :: c209 :: c210 :: c211 :: c212 :: c213 :: c214 :: c215 :: c216 :: c217 :: c218 :: c219 :: c220 :: c221 :: c222 :: c223 :: c224 :: c225 :: c226 :: c227 :: c228 :: c229 :: c230 :: c231 :: c232 :: c233 :: c234 :: c235 :: c236 :: c237 :: c238 :: c239 :: c240 :: c241 :: c242 :: c243 :: c244 :: c245 :: c246 :: c247 :: c248 :: c249 :: c250 :: c251 :: c252 :: c253 :: c254 :: c255 :: c256 :: c257 :: c258 :: c259 :: c260 :: c261 :: c262 :: c263 :: c264 :: c265 :: c266 :: c267 :: c268 :: c269 :: c270 :: c271 :: c272 :: c273 :: c274 :: c275 :: c276 :: c277 :: c278 :: c279 :: c280 :: c281 :: c282 :: c283 :: c284 :: c285 :: c286 :: c287 :: c288 :: c289 :: c290 :: c291 :: c292 :: c293 :: c294 :: c295 :: c296 :: c297 :: c298 :: c299 :: []).toArray, []⟩ w1 := by
  conv => arg 2; arg 1; whnf
  have HB1 := Lib.hid hB
  have HI1 := Lib.hid hI
  clear hB hI
  go_loopw [26] (fun zu wr => ∃ u : Nat, zu = .int .i64 u ∧ (u : Int) ≤ n ∧ w1 = wr ∧ Hid (∀ x, x < u → ∃ c s : Nat, c < nc ∧ mc x = c ∧ isb c = false ∧ s < ln c ∧ ms x = s ∧ nd c s = x)) (fun zu _ => n - (intOf zu).toNat)
  case atStart => exact ⟨0, rfl, by omega, rfl, fun x hx => absurd hx (by omega)⟩
  case round =>
    obtain ⟨u, rfl, hu, hw, HU⟩ := hrel
    subst hw
    by_cases hlt : u < n
    · have b0 : (u : Int) < n := by omega
      have g1 : w1.cell? ⟨mb, mo + u, none⟩ = some (.int .i32 (mc u)) := by rw [HB1.out.cell (p := ⟨mb, mo + u, none⟩) hmb]; exact HMC.out u hlt
      have g2 : w1.cell? ⟨sb, so + u, none⟩ = some (.int .i32 (ms u)) := by rw [HB1.out.cell (p := ⟨sb, so + u, none⟩) hsb]; exact HSC.out u hlt
      obtain ⟨r1, r2⟩ := HRM.out u hlt
      obtain ⟨r3, r4⟩ := HRS.out u hlt
      by_cases t1 : mc u < 0
      · go_wp2
        exact hret.out _ _ HB1.out rfl rfl
      · by_cases t2 : (nc : Int) ≤ mc u
        · go_wp2
          exact hret.out _ _ HB1.out rfl rfl
        · obtain ⟨c, hc⟩ : ∃ c : Nat, mc u = c := ⟨(mc u).toNat, by omega⟩
          have hcn : c < nc := by omega
          have hcn' : (c : Int) < nc := by omega
          rw [hc] at g1
          have g3 := HI1.out.cell (i := c) hcn
          have HC := Lib.hid hc
          clear hc t1 t2 r1 r2
          by_cases t3 : isb c = true
          · rw [t3] at g3
            go_wp2
            exact hret.out _ _ HB1.out rfl rfl
          · have t3' := Bool.eq_false_iff.2 t3
            rw [t3'] at g3
            have HT3 := Lib.hid t3'
            clear t3 t3'
            obtain ⟨nb, no, rfl, hnb, hnc2⟩ := HN.out (by omega)
            have g4 : w1.cell? ⟨nb, no + c, none⟩ = some (r c) := by rw [HB1.out.cell (p := ⟨nb, no + c, none⟩) hnb]; exact hnc2 c hcn
            obtain ⟨hrow, hlnc⟩ := HRO.out c hcn
            clear hnc2
            by_cases t4 : ms u < 0
            · go_wp2
              exact hret.out _ _ HB1.out rfl rfl
            · obtain ⟨s, hs⟩ : ∃ s : Nat, ms u = s := ⟨(ms u).toNat, by omega⟩
              rw [hs] at g2
              have hs2 : (s : Int) ≤ 2147483647 := by omega
              have HSs := Lib.hid hs
              clear hs t4 r3 r4
              obtain ⟨xa, xc, hx, hxc⟩ := hrow.i32
              rw [hx] at g4
              by_cases t5 : (ln c : Int) ≤ s
              · clear hx hxc
                go_wp2
                exact hret.out _ _ HB1.out rfl rfl
              · obtain ⟨xb, xo, rfl, hxb, hxcell⟩ := hxc (by omega)
                have g5 : w1.cell? ⟨xb, xo + s, none⟩ = some (.int .i32 (nd c s)) := by rw [HB1.out.cell (p := ⟨xb, xo + s, none⟩) hxb]; exact hxcell s (by omega)
                have t5' : (s : Int) < ln c := by omega
                obtain ⟨r5, r6⟩ := HRN.out c s hcn (by omega)
                clear hx hxcell
                by_cases t6 : nd c s = u
                · rw [t6] at g5
                  have HF2 : Hid (∀ x, x < u + 1 → ∃ c s : Nat, c < nc ∧ mc x = c ∧ isb c = false ∧ s < ln c ∧ ms x = s ∧ nd c s = x) := fun x hx => by
                    by_cases e : x = u
                    · subst e; exact ⟨c, s, hcn, HC.out, HT3.out, by omega, HSs.out, t6⟩
                    · exact HU.out x (by omega)
                  clear t6
                  go_wp2
                  go_roundw
                  case rel => exact ⟨u + 1, by go_num, by omega, trivial, HF2⟩
                  case measure => simp [intOf]; omega
                · have t6' : (nd c s != (u : Int)) = true := by simpa using t6
                  go_wp2
                  exact hret.out _ _ HB1.out rfl rfl
    · have e0 : u = n := by omega
      subst e0
      go_wp2
      exact hexit.out HU.out
end Go.Proofs.Qxb6623286a
