import Derived.Test.Qxb6623286aY8
namespace Go.Proofs.Qxb6623286a
open Go.RowKit

set_option maxRecDepth 1000000 in
set_option maxHeartbeats 4000000 in
theorem wf_loop6 {c1 c3 c4 c5 c6 c7 c8 c9 c10 c11 c12 c13 c14 c15 c16 c17 c18 c20 c21 c22 c23 c24 c25 c26 c27 c28 c32 c33 c34 c38 c39 c40 c41 c42 c43 c44 c45 c46 c47 c48 c49 c50 c51 c52 c53 c54 c55 c56 c57 c58 c59 c60 c61 c62 c63 c64 c65 c66 c67 c68 c69 c70 c71 c72 c73 c74 c75 c76 c77 c78 c79 c80 c81 c82 c83 c84 c85 c86 c87 c88 c89 c90 c91 c92 c93 c94 c95 c96 c97 c98 c99 c100 c101 c102 c103 c104 c105 c106 c107 c108 c109 c110 c111 c112 c113 c114 c115 c116 c117 c118 c119 c120 c121 c122 c123 c124 c125 c126 c127 c128 c129 c130 c131 c132 c133 c134 c135 c136 c137 c138 c139 c140 c141 c142 c143 c144 c145 c146 c147 c148 c149 c150 c151 c152 c153 c154 c155 c156 c157 c158 c159 c160 c161 c162 c163 c164 c165 c166 c167 c168 c169 c170 c171 c172 c173 c174 c175 c176 c177 c178 c179 c180 c181 c182 c183 c184 c185 c186 c187 c188 c189 c190 c191 c192 c193 c194 c195 c196 c197 c198 c199 c200 c201 c202 c203 c204 c205 c206 c207 c208 c209 c210 c211 c212 c213 c214 c215 c216 c217 c218 c219 c220 c221 c222 c223 c224 c225 c226 c227 c228 c229 c230 c231 c232 c233 c234 c235 c236 c237 c238 c239 c240 c241 c242 c243 c244 c245 c246 c247 c248 c249 c250 c251 c252 c253 c254 c255 c256 c257 c258 c259 c260 c261 c262 c263 c264 c265 c266 c267 c268 c269 c270 c271 c272 c273 c274 c275 c276 c277 c278 c279 c280 c281 c282 c283 c284 c285 c286 c287 c288 c289 c290 c291 c292 c293 c294 c295 c296 c297 c298 c299 : Value} (w w1 : World) (n nc tc mcp lnc xc c : Nat) (tb to mb mo eb sb : Nat) (xa : Option Addr) (thr mc : Nat → Int) (isb : Nat → Bool) (lv f0 : Nat) (Q : Exit → Act → World → Prop)
    (HTC : Hid (∀ k, k < n → w.cell? ⟨tb, to + k, none⟩ = some (.int .i32 (thr k)))) (HMC : Hid (∀ k, k < n → w.cell? ⟨mb, mo + k, none⟩ = some (.int .i32 (mc k))))
    (htb : tb < w.heap.size) (hmb : mb < w.heap.size) (HThr : Hid (∀ k, k < n → ∃ t : Nat, t < n ∧ thr k = t)) (hcn : (c : Int) < 65536) (hln : (lnc : Int) ≤ 1048576) (hln0 : 0 < lnc)
    (hf0 : f0 < n) (hlv : lv < n) (HRM : Hid (∀ k, k < n → -2147483648 ≤ mc k ∧ mc k ≤ 2147483647))
    (hB : Below w.heap.size w w1) (hI : w1.rowIs sb 4 nc (fun c => .bool (isb c))) (b0 : Nat → Bool) (hE : w1.rowIs eb 4 n (fun c => .bool (b0 c))) (hne : sb ≠ eb) (heb : w.heap.size ≤ eb)
    (hret : Hid (∀ a' w', Below w.heap.size w w' → a'.defers = [] → a'.tmps[18]? = some (.bool false) → Q .ret a' w'))
    (hexit : Hid (∀ {u18 u36 u267 u268 u269 u270 u271 u272 u273 u274 u275 u276 u277 u278 u279 u280 u281 u282 u283 u284 u285 u286 u287 u288 u289 u290 u291 u292 u293 u294 u295 : Value} w' (j : Nat) (b : Nat → Bool), Below w.heap.size w w' → w'.rowIs sb 4 nc (fun c => .bool (isb c)) → w'.rowIs eb 4 n (fun c => .bool (b c)) → (∀ i, i ≤ j → runOf thr f0 i < n ∧ mc (runOf thr f0 i) = c) → (∀ i, i < j → runOf thr f0 i ≠ lv) → runOf thr f0 j = lv → j < lnc → Q (.exit 10) ⟨((.slice (some ⟨tb, to, none⟩) n tc) :: c1 :: (.slice (some ⟨mb, mo, none⟩) n mcp) :: c3 :: c4 :: c5 :: c6 :: c7 :: c8 :: c9 :: c10 :: c11 :: c12 :: c13 :: c14 :: c15 :: c16 :: c17 :: u18 :: (.int .i64 n) :: c20 :: c21 :: c22 :: c23 :: c24 :: c25 :: c26 :: c27 :: c28 :: (.slice (some ⟨eb, 0, none⟩) n n) :: (.int .i64 c) :: (.slice xa lnc xc) :: c32 :: c33 :: c34 :: (.int .i32 lv) :: u36 :: (.int .i64 (j + 1)) :: c38 :: c39 :: c40 :: c41 :: c42 :: c43 :: c44 :: c45 :: c46 :: c47 :: c48 :: c49 :: c50 :: c51 :: c52 :: c53 :: c54 :: c55 :: c56 :: c57 :: c58 :: c59 :: c60 :: c61 :: c62 :: c63 :: c64 :: c65 :: c66 :: c67 :: c68 :: c69 :: c70 :: c71 :: c72 :: c73 :: c74 :: c75 :: c76 :: c77 :: c78 :: c79 :: c80 :: c81 :: c82 :: c83 :: c84 :: c85 :: c86 :: c87 :: c88 :: c89 :: c90 :: c91 :: c92 :: c93 :: c94 :: c95 :: c96 :: c97 :: c98 :: c99 :: c100 :: c101 :: c102 :: c103 :: c104 :: c105 :: c106 :: c107 :: c108 :: c109 :: c110 :: c111 :: c112 :: c113 :: c114 :: c115 :: c116 :: c117 :: c118 :: c119 :: c120 :: c121 :: c122 :: c123 :: c124 :: c125 :: c126 :: c127 :: c128 :: c129 :: c130 :: c131 :: c132 :: c133 :: c134 :: c135 :: c136 :: c137 :: c138 :: c139 :: c140 :: c141 :: c142 :: c143 :: c144 :: c145 :: c146 :: c147 :: c148 :: c149 :: c150 :: c151 :: c152 :: c153 :: c154 :: c155 :: c156 :: c157 :: c158 :: c159 :: c160 :: c161 :: c162 :: c163 :: c164 :: c165 :: c166 :: c167 :: c168 :: c169 :: c170 :: c171 :: c172 :: c173 :: c174 :: c175 :: c176 :: c177 :: c178 :: c179 :: c180 :: c181 :: c182 :: c183 :: c184 :: c185 :: c186 :: c187 :: c188 :: c189 :: c190 :: c191 :: c192 :: c193 :: c194 :: c195 :: c196 :: c197 :: c198 :: c199 :: c200 :: c201 :: c202 :: c203 :: c204 :: c205 :: c206 :: c207 :: c208 :: c209 :: c210 :: c211 :: c212 :: c213 :: c214 :: c215 :: c216 :: c217 :: c218 :: c219 :: c220 :: c221 :: c222 :: c223 :: c224 :: c225 :: c226 :: c227 :: c228 :: c229 :: c230 :: c231 :: c232 :: c233 :: c234 :: c235 :: c236 :: c237 :: c238 :: c239 :: c240 :: c241 :: c242 :: c243 :: c244 :: c245 :: c246 :: c247 :: c248 :: c249 :: c250 :: c251 :: c252 :: c253 :: c254 :: c255 :: c256 :: c257 :: c258 :: c259 :: c260 :: c261 :: c262 :: c263 :: c264 :: c265 :: c266 :: u267 :: u268 :: u269 :: u270 :: u271 :: u272 :: u273 :: u274 :: u275 :: u276 :: u277 :: u278 :: u279 :: u280 :: u281 :: u282 :: u283 :: u284 :: u285 :: u286 :: u287 :: u288 :: u289 :: u290 :: u291 :: u292 :: u293 :: u294 :: u295 :: c296 :: c297 :: c298 :: c299 :: []).toArray, []⟩ w')) :
    Code.wp Try.prog (Code.loop (body5 5)) Q ⟨((.slice (some ⟨tb, to, none⟩) n tc) :: c1 :: (.slice (some ⟨mb, mo, none⟩) n mcp) :: c3 :: c4 :: c5 :: c6 :: c7 :: c8 :: c9 :: c10 :: c11 :: c12 :: c13 :: c14 :: c15 :: c16 :: c17 :: c18 :: (.int .i64 n) :: c20 :: c21 :: c22 :: c23 :: c24 :: c25 :: c26 :: c27 :: c28 :: (.slice (some ⟨eb, 0, none⟩) n n) :: (.int .i64 c) :: (.slice xa lnc xc) :: c32 :: c33 :: c34 :: (.int .i32 lv) :: (.int .i32 f0) :: (.int .i64 0) :: c38 :: c39 :: c40 :: c41 :: c42 :: c43 :: c44 :: c45 :: c46 :: c47 :: c48 :: c49 :: c50 :: c51 :: c52 :: c53 :: c54 :: c55 :: c56 :: c57 :: c58 :: c59 :: c60 :: c61 :: c62 :: c63 :: c64 :: c65 :: c66 :: c67 :: c68 :: c69 :: c70 :: c71 :: c72 :: c73 :: c74 :: c75 :: c76 :: c77 :: c78 :: c79 :: c80 :: c81 :: c82 :: c83 :: c84 :: c85 :: c86 :: c87 :: c88 :: c89 :: c90 :: c91 :: c92 :: c93 :: c94 :: c95 :: c96 :: c97 :: c98 :: c99 :: c100 :: c101 :: c102 :: c103 :: c104 :: c105 :: c106 :: c107 :: c108 :: c109 :: c110 :: c111 :: c112 :: c113 :: c114 :: c115 :: c116 :: c117 :: c118 :: c119 :: c120 :: c121 :: c122 :: c123 :: c124 :: c125 :: c126 :: c127 :: c128 :: c129 :: c130 :: c131 :: c132 :: c133 :: c134 :: c135 :: c136 :: c137 :: c138 :: c139 :: c140 :: c141 :: c142 :: c143 :: c144 :: c145 :: c146 :: c147 :: c148 :: c149 :: c150 :: c151 :: c152 :: c153 :: c154 :: c155 :: c156 :: c157 :: c158 :: c159 :: c160 :: c161 :: c162 :: c163 :: c164 :: c165 :: c166 :: c167 :: c168 :: c169 :: c170 :: c171 :: c172 :: c173 :: c174 :: c175 :: c176 :: c177 :: c178 :: c179 :: c180 :: c181 :: c182 :: c183 :: c184 :: c185 :: c186 :: c187 :: c188 :: c189 :: c190 :: c191 :: c192 :: c193 :: c194 :: c195 :: c196 :: c197 :: c198 :: c199 :: c200 :: c201 :: c202 :: c203 :: c204 :: c205 :: c206 :: c207 :: c208 :: c209 :: c210 :: c211 :: c212 :: c213 :: c214 :: c215 :: c216 :: c217 :: c218 :: c219 :: c220 :: c221 :: c222 :: c223 :: c224 :: c225 :: c226 :: c227 :: c228 :: c229 :: c230 :: c231 :: c232 :: c233 :: c234 :: c235 :: c236 :: c237 :: c238 :: c239 :: c240 :: c241 :: c242 :: c243 :: c244 :: c245 :: c246 :: c247 :: c248 :: c249 :: c250 :: c251 :: c252 :: c253 :: c254 :: c255 :: c256 :: c257 :: c258 :: c259 :: c260 :: c261 :: c262 :: c263 :: c264 :: c265 :: c266 :: c267 :: c268 :: c269 :: c270 :: c271 :: c272 :: c273 :: c274 :: c275 :: c276 :: c277 :: c278 :: c279 :: c280 :: c281 :: c282 :: c283 :: c284 :: c285 :: c286 :: c287 :: c288 :: c289 :: c290 :: c291 :: c292 :: c293 :: c294 :: c295 :: c296 :: c297 :: c298 :: c299 :: []).toArray, []⟩ w1 := by
  conv => arg 2; arg 1; whnf
  go_loopw [36, 37] (fun zw zk wr => ∃ (j : Nat) (b : Nat → Bool), zw = .int .i32 (runOf thr f0 j) ∧ zk = .int .i64 j ∧ Hid (Below w.heap.size w wr ∧ wr.rowIs sb 4 nc (fun c => .bool (isb c)) ∧ wr.rowIs eb 4 n (fun c => .bool (b c)) ∧ (∀ i, i < j → runOf thr f0 i < n ∧ mc (runOf thr f0 i) = c ∧ runOf thr f0 i ≠ lv) ∧ runOf thr f0 j < n) ∧ j < lnc) (fun _ zk _ => lnc - (intOf zk).toNat)
  case atStart => exact ⟨0, b0, rfl, rfl, ⟨hB, hI, hE, fun i hi => absurd hi (by omega), hf0⟩, hln0⟩
  case round =>
    obtain ⟨j, b, rfl, rfl, H, hj⟩ := hrel
    have hrn := H.out.2.2.2.2
    generalize hr : runOf thr f0 j = x at hrn
    have hx' : (x : Int) < n := by omega
    have g1 := H.out.2.2.1.cell (i := x) hrn
    have g2 : wr.cell? ⟨mb, mo + x, none⟩ = some (.int .i32 (mc x)) := by rw [H.out.1.cell (p := ⟨mb, mo + x, none⟩) hmb]; exact HMC.out x hrn
    have g3 := H.out.2.2.1.frozen x
    obtain ⟨r1, r2⟩ := HRM.out x hrn
    have HR := Lib.hid hr
    clear hr hB hI hE
    by_cases t1 : b x = true
    · rw [t1] at g1
      go_wp2
      exact hret.out _ _ H.out.1 rfl rfl
    · rw [Bool.eq_false_iff.2 t1] at g1
      clear t1
      by_cases t2 : mc x = c
      · rw [t2] at g2
        have HB2 := H.out.1.setCell (p := ⟨eb, x, none⟩) heb (.bool true)
        have HI2 : Hid ((wr.setCell ⟨eb, x, none⟩ (.bool true)).rowIs sb 4 nc (fun c => .bool (isb c))) := H.out.2.1.setOther hne _
        have HE2 : Hid ((wr.setCell ⟨eb, x, none⟩ (.bool true)).rowIs eb 4 n (fun c => .bool (if c = x then true else b c))) := (H.out.2.2.1.set x (.bool true)).congr (fun c _ => by by_cases e : c = x <;> simp [e])
        have g4 : (wr.setCell ⟨eb, x, none⟩ (.bool true)).cell? ⟨tb, to + x, none⟩ = some (.int .i32 (thr x)) := by rw [HB2.cell (p := ⟨tb, to + x, none⟩) htb]; exact HTC.out x hrn
        have HBB := Lib.hid HB2
        have HM := Lib.hid t2
        obtain ⟨y, hy, hty⟩ := HThr.out x hrn
        rw [hty] at g4
        have HY : Hid (runOf thr f0 (j + 1) = y) := by show (thr (runOf thr f0 j)).toNat = y; rw [HR.out, hty]; simp
        clear HB2 t2 hty r1 r2
        by_cases t3 : x = lv
        · subst t3
          go_wp2
          refine hexit.out _ j _ HBB.out HI2.out HE2.out ?_ ?_ HR.out hj
          · intro i hi
            by_cases e : i = j
            · subst e; rw [HR.out]; exact ⟨hrn, HM.out⟩
            · have := H.out.2.2.2.1 i (by omega); exact ⟨this.1, this.2.1⟩
          · intro i hi
            exact (H.out.2.2.2.1 i hi).2.2
        · have t3' : ((x : Int) == (lv : Int)) = false := by simp; omega
          by_cases t4 : lnc ≤ j + 1
          · have t4' : (lnc : Int) ≤ j + 1 := by omega
            go_wp2
            exact hret.out _ _ HBB.out rfl rfl
          · have t4' : (j : Int) + 1 < lnc := by omega
            go_wp2
            go_roundw
            case rel =>
              refine ⟨j + 1, _, by rw [HY.out], by go_num, ⟨HBB.out, HI2.out, HE2.out, fun i hi => ?_, by rw [HY.out]; exact hy⟩, by omega⟩
              by_cases e : i = j
              · subst e; rw [HR.out]; exact ⟨hrn, HM.out, t3⟩
              · exact H.out.2.2.2.1 i (by omega)
            case measure => simp [intOf]; omega
      · have t2' : (mc x != (c : Int)) = true := by simpa using t2
        go_wp2
        exact hret.out _ _ H.out.1 rfl rfl
end Go.Proofs.Qxb6623286a
