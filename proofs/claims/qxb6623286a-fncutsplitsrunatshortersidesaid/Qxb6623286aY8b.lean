import Derived.Test.Qxb6623286aY8
namespace Go.Proofs.Qxb6623286a
open Go.RowKit

set_option maxRecDepth 1000000 in
set_option maxHeartbeats 4000000 in
theorem wf_loop2 {c0 c1 c2 c3 c4 c5 c6 c8 c9 c10 c11 c12 c13 c14 c15 c16 c17 c18 c19 c21 c22 c25 c26 c27 c28 c29 c30 c31 c32 c33 c34 c35 c36 c37 c38 c39 c40 c41 c42 c43 c44 c45 c46 c47 c48 c49 c50 c51 c52 c53 c54 c55 c56 c57 c58 c59 c60 c61 c62 c63 c64 c65 c66 c67 c68 c69 c70 c71 c72 c73 c74 c75 c76 c77 c78 c79 c80 c81 c82 c83 c84 c85 c86 c87 c88 c89 c90 c91 c92 c93 c94 c95 c96 c97 c98 c99 c100 c101 c102 c103 c104 c105 c106 c107 c108 c109 c110 c111 c112 c113 c114 c115 c116 c117 c118 c119 c120 c121 c122 c123 c124 c125 c126 c127 c128 c129 c130 c131 c132 c133 c134 c135 c136 c137 c138 c139 c140 c141 c142 c143 c144 c145 c146 c147 c148 c149 c150 c151 c152 c153 c154 c155 c156 c157 c158 c159 c160 c161 c162 c163 c164 c165 c166 c167 c168 c169 c170 c171 c172 c173 c174 c175 c176 c177 c178 c179 c180 c181 c182 c183 c184 c185 c186 c187 c188 c189 c190 c191 c192 c193 c194 c195 c196 c197 c198 c199 c200 c201 c202 c203 c204 c205 c206 c207 c208 c209 c210 c211 c212 c213 c214 c215 c216 c217 c218 c219 c220 c221 c222 c223 c224 c225 c226 c227 c228 c229 c230 c231 c232 c233 c234 c235 c236 c237 c238 c239 c240 c241 c242 c243 c244 c245 c246 c247 c248 c249 c250 c251 c252 c253 c254 c255 c256 c257 c258 c259 c260 c261 c262 c263 c264 c265 c266 c267 c268 c269 c270 c271 c272 c273 c274 c275 c276 c277 c278 c279 c280 c281 c282 c283 c284 c285 c286 c287 c288 c289 c290 c291 c292 c293 c294 c295 c296 c297 c298 c299 : Value} (w w1 : World) (nc ns pc eb : Nat) (pa : Option Addr) (sp : Nat → Int) (Q : Exit → Act → World → Prop)
    (HP : Hid (0 < ns → ∃ pb po, pa = some ⟨pb, po, none⟩ ∧ pb < w.heap.size ∧ ∀ k, k < ns → w.cell? ⟨pb, po + k, none⟩ = some (.int .i32 (sp k))))
    (HRP : Hid (∀ k, k < ns → -2147483648 ≤ sp k ∧ sp k ≤ 2147483647)) (hnc : (nc : Int) ≤ 65536) (hns : (ns : Int) ≤ 65536) (heb : w.heap.size ≤ eb)
    (hB : Below w.heap.size w w1) (hI : w1.rowIs eb 4 nc (fun _ => .bool false))
    (hret : Hid (∀ a' w', Below w.heap.size w w' → a'.defers = [] → a'.tmps[18]? = some (.bool false) → Q .ret a' w'))
    (hexit : Hid (∀ {u18 u25 u108 u109 u110 u111 u112 u113 u114 u115 u116 u117 u118 u119 u120 u121 u122 u123 u124 u125 u126 u127 u128 u129 u130 u131 u132 u133 u134 : Value} w', Below w.heap.size w w' → w'.rowIs eb 4 nc (fun c => .bool (isS sp ns c)) → (∀ j, j < ns → ∃ d : Nat, d < nc ∧ sp j = d) → Q (.exit 2) ⟨(c0 :: c1 :: c2 :: c3 :: c4 :: c5 :: c6 :: (.slice pa ns pc) :: c8 :: c9 :: c10 :: c11 :: c12 :: c13 :: c14 :: c15 :: c16 :: c17 :: u18 :: c19 :: (.int .i64 nc) :: c21 :: c22 :: (.slice (some ⟨eb, 0, none⟩) nc nc) :: (.int .i64 ns) :: u25 :: c26 :: c27 :: c28 :: c29 :: c30 :: c31 :: c32 :: c33 :: c34 :: c35 :: c36 :: c37 :: c38 :: c39 :: c40 :: c41 :: c42 :: c43 :: c44 :: c45 :: c46 :: c47 :: c48 :: c49 :: c50 :: c51 :: c52 :: c53 :: c54 :: c55 :: c56 :: c57 :: c58 :: c59 :: c60 :: c61 :: c62 :: c63 :: c64 :: c65 :: c66 :: c67 :: c68 :: c69 :: c70 :: c71 :: c72 :: c73 :: c74 :: c75 :: c76 :: c77 :: c78 :: c79 :: c80 :: c81 :: c82 :: c83 :: c84 :: c85 :: c86 :: c87 :: c88 :: c89 :: c90 :: c91 :: c92 :: c93 :: c94 :: c95 :: c96 :: c97 :: c98 :: c99 :: c100 :: c101 :: c102 :: c103 :: c104 :: c105 :: c106 :: c107 :: u108 :: u109 :: u110 :: u111 :: u112 :: u113 :: u114 :: u115 :: u116 :: u117 :: u118 :: u119 :: u120 :: u121 :: u122 :: u123 :: u124 :: u125 :: u126 :: u127 :: u128 :: u129 :: u130 :: u131 :: u132 :: u133 :: u134 :: c135 :: c136 :: c137 :: c138 :: c139 :: c140 :: c141 :: c142 :: c143 :: c144 :: c145 :: c146 :: c147 :: c148 :: c149 :: c150 :: c151 :: c152 :: c153 :: c154 :: c155 :: c156 :: c157 :: c158 :: c159 :: c160 :: c161 :: c162 :: c163 :: c164 :: c165 :: c166 :: c167 :: c168 :: c169 :: c170 :: c171 :: c172 :: c173 :: c174 :: c175 :: c176 :: c177 :: c178 :: c179 :: c180 :: c181 :: c182 :: c183 :: c184 :: c185 :: c186 :: c187 :: c188 :: c189 :: c190 :: c191 :: c192 :: c193 :: c194 :: c195 :: c196 :: c197 :: c198 :: c199 :: c200 :: c201 :: c202 :: c203 :: c204 :: c205 :: c206 :: c207 :: c208 :: c209 :: c210 :: c211 :: c212 :: c213 :: c214 :: c215 :: c216 :: c217 :: c218 :: c219 :: c220 :: c221 :: c222 :: c223 :: c224 :: c225 :: c226 :: c227 :: c228 :: c229 :: c230 :: c231 :: c232 :: c233 :: c234 :: c235 :: c236 :: c237 :: c238 :: c239 :: c240 :: c241 :: c242 :: c243 :: c244 :: c245 :: c246 :: c247 :: c248 :: c249 :: c250 :: c251 :: c252 :: c253 :: c254 :: c255 :: c256 :: c257 :: c258 :: c259 :: c260 :: c261 :: c262 :: c263 :: c264 :: c265 :: c266 :: c267 :: c268 :: c269 :: c270 :: c271 :: c272 :: c273 :: c274 :: c275 :: c276 :: c277 :: c278 :: c279 :: c280 :: c281 :: c282 :: c283 :: c284 :: c285 :: c286 :: c287 :: c288 :: c289 :: c290 :: c291 :: c292 :: c293 :: c294 :: c295 :: c296 :: c297 :: c298 :: c299 :: []).toArray, []⟩ w')) :
    Code.wp Try.prog (Code.loop (body5 1)) Q ⟨(c0 :: c1 :: c2 :: c3 :: c4 :: c5 :: c6 :: (.slice pa ns pc) :: c8 :: c9 :: c10 :: c11 :: c12 :: c13 :: c14 :: c15 :: c16 :: c17 :: c18 :: c19 :: (.int .i64 nc) :: c21 :: c22 :: (.slice (some ⟨eb, 0, none⟩) nc nc) :: (.int .i64 0) :: c25 :: c26 :: c27 :: c28 :: c29 :: c30 :: c31 :: c32 :: c33 :: c34 :: c35 :: c36 :: c37 :: c38 :: c39 :: c40 :: c41 :: c42 :: c43 :: c44 :: c45 :: c46 :: c47 :: c48 :: c49 :: c50 :: c51 :: c52 :: c53 :: c54 :: c55 :: c56 :: c57 :: c58 :: c59 :: c60 :: c61 :: c62 :: c63 :: c64 :: c65 :: c66 :: c67 :: c68 :: c69 :: c70 :: c71 :: c72 :: c73 :: c74 :: c75 :: c76 :: c77 :: c78 :: c79 :: c80 :: c81 :: c82 :: c83 :: c84 :: c85 :: c86 :: c87 :: c88 :: c89 :: c90 :: c91 :: c92 :: c93 :: c94 :: c95 :: c96 :: c97 :: c98 :: c99 :: c100 :: c101 :: c102 :: c103 :: c104 :: c105 :: c106 :: c107 :: c108 :: c109 :: c110 :: c111 :: c112 :: c113 :: c114 :: c115 :: c116 :: c117 :: c118 :: c119 :: c120 :: c121 :: c122 :: c123 :: c124 :: c125 :: c126 :: c127 :: c128 :: c129 :: c130 :: c131 :: c132 :: c133 :: c134 :: c135 :: c136 :: c137 :: c138 :: c139 :: c140 :: c141 :: c142 :: c143 :: c144 :: c145 :: c146 :: c147 :: c148 :: c149 :: c150 :: c151 :: c152 :: c153 :: c154 :: c155 :: c156 :: c157 :: c158 :: c159 :: c160 :: c161 :: c162 :: c163 :: c164 :: c165 :: c166 :: c167 :: c168 :: c169 :: c170 :: c171 :: c172 :: c173 :: c174 :: c175 :: c176 :: c177 :: c178 :: c179 :: c180 :: c181 :: c182 :: c183 :: c184 :: c185 :: c186 :: c187 :: c188 :: c189 :: c190 :: c191 :: c192 :: c193 :: c194 :: c195 :: c196 :: c197 :: c198 :: c199 :: c200 :: c201 :: c202 :: c203 :: c204 :: c205 :: c206 :: c207 :: c208 :: c209 :: c210 :: c211 :: c212 :: c213 :: c214 :: c215 :: c216 :: c217 :: c218 :: c219 :: c220 :: c221 :: c222 :: c223 :: c224 :: c225 :: c226 :: c227 :: c228 :: c229 :: c230 :: c231 :: c232 :: c233 :: c234 :: c235 :: c236 :: c237 :: c238 :: c239 :: c240 :: c241 :: c242 :: c243 :: c244 :: c245 :: c246 :: c247 :: c248 :: c249 :: c250 :: c251 :: c252 :: c253 :: c254 :: c255 :: c256 :: c257 :: c258 :: c259 :: c260 :: c261 :: c262 :: c263 :: c264 :: c265 :: c266 :: c267 :: c268 :: c269 :: c270 :: c271 :: c272 :: c273 :: c274 :: c275 :: c276 :: c277 :: c278 :: c279 :: c280 :: c281 :: c282 :: c283 :: c284 :: c285 :: c286 :: c287 :: c288 :: c289 :: c290 :: c291 :: c292 :: c293 :: c294 :: c295 :: c296 :: c297 :: c298 :: c299 :: []).toArray, []⟩ w1 := by
  conv => arg 2; arg 1; whnf
  go_loopw [24] (fun zk wr => ∃ k : Nat, zk = .int .i64 k ∧ (k : Int) ≤ ns ∧ Hid (Below w.heap.size w wr ∧ wr.rowIs eb 4 nc (fun c => .bool (isS sp k c)) ∧ ∀ j, j < k → ∃ d : Nat, d < nc ∧ sp j = d)) (fun zk _ => ns - (intOf zk).toNat)
  case atStart => exact ⟨0, rfl, by omega, hB, hI.congr (fun c _ => by simp [isS]), fun j hj => absurd hj (by omega)⟩
  case round =>
    obtain ⟨k, rfl, hk, HK⟩ := hrel
    clear hB hI
    by_cases hlt : k < ns
    · have b0 : (k : Int) < ns := by omega
      obtain ⟨pb, po, rfl, hpb, hpc⟩ := HP.out (by omega)
      have g1 : wr.cell? ⟨pb, po + k, none⟩ = some (.int .i32 (sp k)) := by rw [HK.out.1.cell (p := ⟨pb, po + k, none⟩) hpb]; exact hpc k hlt
      obtain ⟨r1, r2⟩ := HRP.out k hlt
      clear hpc
      by_cases t1 : sp k < 0
      · go_wp2
        exact hret.out _ _ HK.out.1 rfl rfl
      · by_cases t2 : (nc : Int) ≤ sp k
        · go_wp2
          exact hret.out _ _ HK.out.1 rfl rfl
        · obtain ⟨d, hd⟩ : ∃ d : Nat, sp k = d := ⟨(sp k).toNat, by omega⟩
          have hdn : d < nc := by omega
          have hdn' : (d : Int) < nc := by omega
          rw [hd] at g1
          have g2 := HK.out.2.1.cell (i := d) hdn
          have g3 := HK.out.2.1.frozen d
          have HD := Lib.hid hd
          clear hd t1 t2 r1 r2
          by_cases t3 : isS sp k d = true
          · rw [t3] at g2
            go_wp2
            exact hret.out _ _ HK.out.1 rfl rfl
          · rw [Bool.eq_false_iff.2 t3] at g2
            have HF2 : Hid (Below w.heap.size w (wr.setCell ⟨eb, d, none⟩ (.bool true)) ∧ (wr.setCell ⟨eb, d, none⟩ (.bool true)).rowIs eb 4 nc (fun c => .bool (isS sp (k + 1) c)) ∧ ∀ j, j < k + 1 → ∃ d : Nat, d < nc ∧ sp j = d) := by
              refine ⟨HK.out.1.setCell heb _, (HK.out.2.1.set d (.bool true)).congr (fun c _ => ?_), fun j hj => ?_⟩
              · rw [isS_succ, HD.out]
                by_cases e : c = d
                · subst e; simp
                · have : ((d : Int) == (c : Int)) = false := by simp; omega
                  simp [e, this]
              · by_cases e : j = k
                · subst e; exact ⟨d, hdn, HD.out⟩
                · exact HK.out.2.2 j (by omega)
            clear t3
            go_wp2
            go_roundw
            case rel => exact ⟨k + 1, by go_num, by omega, HF2⟩
            case measure => simp [intOf]; omega
    · have e0 : k = ns := by omega
      subst e0
      go_wp2
      exact hexit.out _ HK.out.1 HK.out.2.1 HK.out.2.2
end Go.Proofs.Qxb6623286a
