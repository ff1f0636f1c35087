import Derived.Test.Qxb6623375aB1
import Derived.StillTailTactics
namespace Go.Proofs.Qxb6623375a
open Go.RowKit

def updVl (f : Nat → Value) (i : Nat) (x : Value) : Nat → Value := fun k => if k = i then x else f k
theorem trV_upd (i : Nat) (f : Nat → Value) (x : Value) : trV i (updVl f i x) = trV i f := by
  funext k
  by_cases h : k < i
  · have : k ≠ i := by omega
    simp [trV, updVl, h, this]
  · simp [trV, h]
theorem ptF_full {w : World} {PT n : Nat} {nm dg : Nat → ByteArray} {pv : Nat → Value} (h : w.rowIs PT 34 (n * 6) (ptF (trS n nm) (trS n dg) (trV n pv))) : w.rowIs PT 34 (n * 6) (ptF nm dg pv) := by
  refine h.congr (fun j hj => ?_)
  have : j / 6 < n := by omega
  simp [ptF, trS, trV, this]
theorem pdF_full {w : World} {PD n : Nat} {ac im : Nat → ByteArray} {ru : Nat → Int} {un : Nat → Bool} (h : w.rowIs PD 40 (n * 4) (pdF (trS n ac) (trS n im) (trI n ru) (trB n un))) : w.rowIs PD 40 (n * 4) (pdF ac im ru un) := by
  refine h.congr (fun j hj => ?_)
  have : j / 4 < n := by omega
  simp [pdF, trS, trI, trB, this]

theorem pt_round {w w2 : World} {PT n i : Nat} {nm dg : Nat → ByteArray} {pv : Nat → Value} {ml : Nat → Nat} {mf : Nat → Nat → ByteArray} (x : Value) (hPT : PT = w.heap.size) (hB : Below w.heap.size w w2) (hR : w2.rowIs PT 34 (n * 6) (ptF (trS i nm) (trS i dg) (trV i pv))) (hC : ∀ k, k < i → Cp w2 (pv k) (ml k) (mf k)) (hx : Cp w2 x (ml i) (mf i)) :
    Below w.heap.size w ((((((w2.setCell ⟨PT, i * 6, none⟩ (.string (nm i))).setCell ⟨PT, i * 6 + 1, none⟩ (.int .u64 0)).setCell ⟨PT, i * 6 + 2, none⟩ (.int .i64 0)).setCell ⟨PT, i * 6 + 3, none⟩ (.pointer none)).setCell ⟨PT, i * 6 + 4, none⟩ (.string (dg i))).setCell ⟨PT, i * 6 + 5, none⟩ x) ∧
    ((((((w2.setCell ⟨PT, i * 6, none⟩ (.string (nm i))).setCell ⟨PT, i * 6 + 1, none⟩ (.int .u64 0)).setCell ⟨PT, i * 6 + 2, none⟩ (.int .i64 0)).setCell ⟨PT, i * 6 + 3, none⟩ (.pointer none)).setCell ⟨PT, i * 6 + 4, none⟩ (.string (dg i))).setCell ⟨PT, i * 6 + 5, none⟩ x).rowIs PT 34 (n * 6) (ptF (trS (i + 1) nm) (trS (i + 1) dg) (trV (i + 1) (updVl pv i x))) ∧
    ∀ k, k < i + 1 → Cp ((((((w2.setCell ⟨PT, i * 6, none⟩ (.string (nm i))).setCell ⟨PT, i * 6 + 1, none⟩ (.int .u64 0)).setCell ⟨PT, i * 6 + 2, none⟩ (.int .i64 0)).setCell ⟨PT, i * 6 + 3, none⟩ (.pointer none)).setCell ⟨PT, i * 6 + 4, none⟩ (.string (dg i))).setCell ⟨PT, i * 6 + 5, none⟩ x) (updVl pv i x k) (ml k) (mf k) := by
  have hle : w.heap.size ≤ PT := by omega
  refine ⟨(((((hB.setCell (p := ⟨PT, i * 6, none⟩) hle _).setCell (p := ⟨PT, i * 6 + 1, none⟩) hle _).setCell (p := ⟨PT, i * 6 + 2, none⟩) hle _).setCell (p := ⟨PT, i * 6 + 3, none⟩) hle _).setCell (p := ⟨PT, i * 6 + 4, none⟩) hle _).setCell (p := ⟨PT, i * 6 + 5, none⟩) hle _, ?_, fun k hk => ?_⟩
  · rw [← trV_upd i pv x] at hR
    have := pt_put hR
    rw [show updVl pv i x i = x by simp [updVl]] at this
    exact this
  · have hcp : Cp w2 (updVl pv i x k) (ml k) (mf k) := by
      by_cases e : k = i
      · subst e; simpa [updVl] using hx
      · simpa [updVl, e] using hC k (by omega)
    refine hcp.kept (fun b m f hr => ?_)
    have hne : b ≠ PT := row_other hr hR (by decide)
    rw [Below.heap_setCell _ _ _ _ hne, Below.heap_setCell _ _ _ _ hne, Below.heap_setCell _ _ _ _ hne, Below.heap_setCell _ _ _ _ hne, Below.heap_setCell _ _ _ _ hne, Below.heap_setCell _ _ _ _ hne]

set_option maxRecDepth 1000000 in
set_option maxHeartbeats 4000000 in
theorem law_loop1 {y1 y2 y3 y4 y8 y9 y10 y11 y12 y13 y14 y15 y16 y17 y18 y19 y20 y21 y22 y23 y24 y25 y26 y27 y28 y29 y30 y31 y32 y33 y34 y35 y36 y37 y38 y39 y40 y41 y42 y43 y44 y45 y46 y47 y48 y49 y50 y51 y52 y53 y54 y55 y56 y57 y58 y59 y60 y61 y62 y63 y64 y65 y66 y67 y68 y69 y70 y71 y72 y73 y74 y75 y76 y77 y78 y79 y80 y81 y82 y83 y84 y85 y86 y87 y88 y89 y90 y91 y92 y93 y94 y95 y96 y97 y98 y99 y100 y101 y102 y103 y104 y105 y106 y107 y108 y109 y110 y111 y112 y113 y114 y115 y116 y117 y118 y119 y120 y121 y122 y123 y124 y125 y126 y127 y128 y129 y130 y131 y132 y133 y134 y135 y136 y137 y138 y139 y140 y141 y142 y143 y144 y145 y146 y147 y148 y149 y150 y151 y152 y153 y154 y155 y156 y157 y158 y159 y160 y161 y162 y163 y164 y165 y166 y167 y168 y169 y170 y171 y172 y173 y174 y175 y176 y177 y178 y179 y180 y181 y182 y183 y184 y185 y186 y187 y188 y189 y190 y191 y192 y193 y194 y195 y196 y197 y198 y199 y200 y201 y202 y203 y204 y205 y206 y207 y208 y209 y210 y211 y212 y213 y214 y215 y216 y217 y218 y219 y220 y221 y222 y223 y224 y225 y226 y227 y228 y229 y230 y231 y232 y233 y234 y235 y236 y237 y238 y239 y240 y241 y242 y243 y244 y245 y246 y247 y248 y249 y250 y251 y252 y253 y254 y255 y256 y257 y258 y259 y260 y261 y262 y263 y264 y265 y266 y267 y268 y269 y270 y271 y272 y273 y274 y275 y276 y277 y278 y279 y280 y281 y282 y283 y284 y285 y286 : Value} (w w1 : World) (n c0 : Nat) (a0 : Option Addr) (nm dg : Nat → ByteArray) (mv : Nat → Value) (ml : Nat → Nat) (mf : Nat → Nat → ByteArray) (Q : Exit → Act → World → Prop)
    (hT : TagsIn w a0 n nm dg mv ml mf) (hn : (n : Int) ≤ 256) (hml : ∀ k, k < n → ml k ≤ 1048576) (hB : Below w.heap.size w w1) (hR : w1.rowIs w.heap.size 34 (n * 6) (ptF (trS 0 nm) (trS 0 dg) (trV 0 mv)))
    (hexit : Hid (∀ {u7 u8 u43 u44 u45 u46 u47 u48 u49 u50 u51 u52 u53 u54 u55 u56 u57 u58 u59 u60 u61 u62 u63 u64 u65 u66 u67 u68 u69 u70 u71 u72 u73 u74 u75 u76 u77 u78 u79 u80 u81 u82 : Value} w' (pv : Nat → Value), Below w.heap.size w w' → w'.rowIs w.heap.size 34 (n * 6) (ptF nm dg pv) → (∀ k, k < n → Cp w' (pv k) (ml k) (mf k)) → Q (.exit 0) ⟨((.slice a0 n c0) :: y1 :: y2 :: y3 :: y4 :: (.int .i64 n) :: (.slice (some ⟨w.heap.size, 0, none⟩) n n) :: u7 :: u8 :: y9 :: y10 :: y11 :: y12 :: y13 :: y14 :: y15 :: y16 :: y17 :: y18 :: y19 :: y20 :: y21 :: y22 :: y23 :: y24 :: y25 :: y26 :: y27 :: y28 :: y29 :: y30 :: y31 :: y32 :: y33 :: y34 :: y35 :: y36 :: y37 :: y38 :: y39 :: y40 :: y41 :: y42 :: u43 :: u44 :: u45 :: u46 :: u47 :: u48 :: u49 :: u50 :: u51 :: u52 :: u53 :: u54 :: u55 :: u56 :: u57 :: u58 :: u59 :: u60 :: u61 :: u62 :: u63 :: u64 :: u65 :: u66 :: u67 :: u68 :: u69 :: u70 :: u71 :: u72 :: u73 :: u74 :: u75 :: u76 :: u77 :: u78 :: u79 :: u80 :: u81 :: u82 :: y83 :: y84 :: y85 :: y86 :: y87 :: y88 :: y89 :: y90 :: y91 :: y92 :: y93 :: y94 :: y95 :: y96 :: y97 :: y98 :: y99 :: y100 :: y101 :: y102 :: y103 :: y104 :: y105 :: y106 :: y107 :: y108 :: y109 :: y110 :: y111 :: y112 :: y113 :: y114 :: y115 :: y116 :: y117 :: y118 :: y119 :: y120 :: y121 :: y122 :: y123 :: y124 :: y125 :: y126 :: y127 :: y128 :: y129 :: y130 :: y131 :: y132 :: y133 :: y134 :: y135 :: y136 :: y137 :: y138 :: y139 :: y140 :: y141 :: y142 :: y143 :: y144 :: y145 :: y146 :: y147 :: y148 :: y149 :: y150 :: y151 :: y152 :: y153 :: y154 :: y155 :: y156 :: y157 :: y158 :: y159 :: y160 :: y161 :: y162 :: y163 :: y164 :: y165 :: y166 :: y167 :: y168 :: y169 :: y170 :: y171 :: y172 :: y173 :: y174 :: y175 :: y176 :: y177 :: y178 :: y179 :: y180 :: y181 :: y182 :: y183 :: y184 :: y185 :: y186 :: y187 :: y188 :: y189 :: y190 :: y191 :: y192 :: y193 :: y194 :: y195 :: y196 :: y197 :: y198 :: y199 :: y200 :: y201 :: y202 :: y203 :: y204 :: y205 :: y206 :: y207 :: y208 :: y209 :: y210 :: y211 :: y212 :: y213 :: y214 :: y215 :: y216 :: y217 :: y218 :: y219 :: y220 :: y221 :: y222 :: y223 :: y224 :: y225 :: y226 :: y227 :: y228 :: y229 :: y230 :: y231 :: y232 :: y233 :: y234 :: y235 :: y236 :: y237 :: y238 :: y239 :: y240 :: y241 :: y242 :: y243 :: y244 :: y245 :: y246 :: y247 :: y248 :: y249 :: y250 :: y251 :: y252 :: y253 :: y254 :: y255 :: y256 :: y257 :: y258 :: y259 :: y260 :: y261 :: y262 :: y263 :: y264 :: y265 :: y266 :: y267 :: y268 :: y269 :: y270 :: y271 :: y272 :: y273 :: y274 :: y275 :: y276 :: y277 :: y278 :: y279 :: y280 :: y281 :: y282 :: y283 :: y284 :: y285 :: y286 :: []).toArray, []⟩ w')) :
    Code.wp Try.prog (Code.loop (body3 0)) Q ⟨((.slice a0 n c0) :: y1 :: y2 :: y3 :: y4 :: (.int .i64 n) :: (.slice (some ⟨w.heap.size, 0, none⟩) n n) :: (.int .i64 0) :: y8 :: y9 :: y10 :: y11 :: y12 :: y13 :: y14 :: y15 :: y16 :: y17 :: y18 :: y19 :: y20 :: y21 :: y22 :: y23 :: y24 :: y25 :: y26 :: y27 :: y28 :: y29 :: y30 :: y31 :: y32 :: y33 :: y34 :: y35 :: y36 :: y37 :: y38 :: y39 :: y40 :: y41 :: y42 :: y43 :: y44 :: y45 :: y46 :: y47 :: y48 :: y49 :: y50 :: y51 :: y52 :: y53 :: y54 :: y55 :: y56 :: y57 :: y58 :: y59 :: y60 :: y61 :: y62 :: y63 :: y64 :: y65 :: y66 :: y67 :: y68 :: y69 :: y70 :: y71 :: y72 :: y73 :: y74 :: y75 :: y76 :: y77 :: y78 :: y79 :: y80 :: y81 :: y82 :: y83 :: y84 :: y85 :: y86 :: y87 :: y88 :: y89 :: y90 :: y91 :: y92 :: y93 :: y94 :: y95 :: y96 :: y97 :: y98 :: y99 :: y100 :: y101 :: y102 :: y103 :: y104 :: y105 :: y106 :: y107 :: y108 :: y109 :: y110 :: y111 :: y112 :: y113 :: y114 :: y115 :: y116 :: y117 :: y118 :: y119 :: y120 :: y121 :: y122 :: y123 :: y124 :: y125 :: y126 :: y127 :: y128 :: y129 :: y130 :: y131 :: y132 :: y133 :: y134 :: y135 :: y136 :: y137 :: y138 :: y139 :: y140 :: y141 :: y142 :: y143 :: y144 :: y145 :: y146 :: y147 :: y148 :: y149 :: y150 :: y151 :: y152 :: y153 :: y154 :: y155 :: y156 :: y157 :: y158 :: y159 :: y160 :: y161 :: y162 :: y163 :: y164 :: y165 :: y166 :: y167 :: y168 :: y169 :: y170 :: y171 :: y172 :: y173 :: y174 :: y175 :: y176 :: y177 :: y178 :: y179 :: y180 :: y181 :: y182 :: y183 :: y184 :: y185 :: y186 :: y187 :: y188 :: y189 :: y190 :: y191 :: y192 :: y193 :: y194 :: y195 :: y196 :: y197 :: y198 :: y199 :: y200 :: y201 :: y202 :: y203 :: y204 :: y205 :: y206 :: y207 :: y208 :: y209 :: y210 :: y211 :: y212 :: y213 :: y214 :: y215 :: y216 :: y217 :: y218 :: y219 :: y220 :: y221 :: y222 :: y223 :: y224 :: y225 :: y226 :: y227 :: y228 :: y229 :: y230 :: y231 :: y232 :: y233 :: y234 :: y235 :: y236 :: y237 :: y238 :: y239 :: y240 :: y241 :: y242 :: y243 :: y244 :: y245 :: y246 :: y247 :: y248 :: y249 :: y250 :: y251 :: y252 :: y253 :: y254 :: y255 :: y256 :: y257 :: y258 :: y259 :: y260 :: y261 :: y262 :: y263 :: y264 :: y265 :: y266 :: y267 :: y268 :: y269 :: y270 :: y271 :: y272 :: y273 :: y274 :: y275 :: y276 :: y277 :: y278 :: y279 :: y280 :: y281 :: y282 :: y283 :: y284 :: y285 :: y286 :: []).toArray, []⟩ w1 := by
  conv => arg 2; arg 1; whnf
  have HT := Lib.hid hT
  have HML := Lib.hid hml
  clear hT hml
  go_loopw [7] (fun zi wr => ∃ (i : Nat) (pv : Nat → Value), zi = .int .i64 i ∧ (i : Int) ≤ n ∧ Hid (Below w.heap.size w wr ∧ wr.rowIs w.heap.size 34 (n * 6) (ptF (trS i nm) (trS i dg) (trV i pv)) ∧ ∀ k, k < i → Cp wr (pv k) (ml k) (mf k))) (fun zi _ => n - (intOf zi).toNat)
  case atStart => exact ⟨0, mv, rfl, by omega, hB, hR, fun k hk => absurd hk (by omega)⟩
  case round =>
    obtain ⟨i, pv, rfl, hi, H⟩ := hrel
    clear hB hR
    by_cases hlt : i < n
    · have b0 : (i : Int) < n := by omega
      obtain ⟨tb, to, rfl, htb, hc⟩ := HT.out.cells (by omega)
      have hnePT : tb ≠ w.heap.size := by omega
      obtain ⟨g1, g2, g3⟩ := hc i hlt
      rw [← H.out.1.cell (p := ⟨tb, to + i * 3, none⟩) htb] at g1
      rw [← H.out.1.cell (p := ⟨tb, to + i * 3 + 1, none⟩) htb] at g2
      rw [← H.out.1.cell (p := ⟨tb, to + i * 3 + 2, none⟩) htb] at g3
      have hmi : (ml i : Int) ≤ 1048576 := by have := HML.out i hlt; omega
      rcases HT.out.mans i hlt with ⟨e1, e2⟩ | ⟨ad, cp, e1, hcell⟩
      · rw [e1] at g3
        have q1 := neq_nil26 wr none 0 0
        have qb : nn none = false := rfl
        rw [qb] at q1
        have HB1 := Lib.hid H.out.1
        have HR1 := Lib.hid H.out.2.1
        have HC1 := Lib.hid H.out.2.2
        have HE := Lib.hid (And.intro e1 e2)
        clear hc e1 e2
        go_wp2
        go_still_tail 15, (show Try.prog.follows .mixedOrders = true by kernel_rfl)
        clear g3 q1 qb
        obtain ⟨w2, hw2⟩ : ∃ w2, w2 = ({ heap := wr.heap, tape := wr.tape, drawn := wr.drawn + 1, os := wr.os, output := wr.output } : World) := ⟨_, rfl⟩
        rw [← hw2]
        have HB2 : Hid (Below w.heap.size w w2) := by rw [hw2]; exact ⟨HB1.out.os, HB1.out.tape, HB1.out.output, HB1.out.size, HB1.out.block⟩
        have HR2 : Hid (w2.rowIs w.heap.size 34 (n * 6) (ptF (trS i nm) (trS i dg) (trV i pv))) := by rw [hw2]; exact HR1.out
        have HC2 : Hid (∀ k, k < i → Cp w2 (pv k) (ml k) (mf k)) := by rw [hw2]; exact HC1.out
        have HX2 : Hid (Cp w2 (.slice none 0 0) (ml i) (mf i)) := by rw [hw2]; exact .inl ⟨rfl, HE.out.2⟩
        clear hw2 g1 g2
        obtain ⟨r0, r1, r2, r3, r4, r5⟩ := pt_cells HR2.out hlt
        have z0 := HR2.out.frozen (i * 6)
        have z1 := HR2.out.frozen (i * 6 + 1)
        have z2 := HR2.out.frozen (i * 6 + 2)
        have z3 := HR2.out.frozen (i * 6 + 3)
        have z4 := HR2.out.frozen (i * 6 + 4)
        have z5 := HR2.out.frozen (i * 6 + 5)
        have HP := Lib.hid (pt_round (.slice none 0 0) rfl HB2.out HR2.out HC2.out HX2.out)
        go_wp2
        go_roundw
        case rel => exact ⟨i + 1, _, by go_num, by omega, HP⟩
        case measure => simp [intOf]; omega
      · rw [e1] at g3
        have q1 := neq_nil26 wr (some ad) (ml i) cp
        have qb : nn (some ad) = true := rfl
        rw [qb] at q1
        have hmk := run_make_row' (P := Try.prog) 26 9 (.string ByteArray.empty) 16 Try.underlying26 Try.info9 rfl .i64 .i64 (ml i) (by omega) (by omega) wr
        obtain ⟨W2, hcp, hBW, hrW⟩ := copyS wr (mf i) (ml i) cp ad (fun h0 => by
          obtain ⟨b, o, e, hlt', hcc⟩ := hcell h0
          exact ⟨b, o, e, Nat.lt_of_lt_of_le hlt' H.out.1.size, fun k hk => by rw [H.out.1.cell (p := ⟨b, o + k, none⟩) hlt']; exact hcc k hk⟩)
        have htb1 : tb < wr.heap.size := Nat.lt_of_lt_of_le htb H.out.1.size
        have g3' : (wr.alloc (.cells (madeCells #[.string ByteArray.empty] (ml i)) 9)).cell? ⟨tb, to + i * 3 + 2, none⟩ = some (.slice (some ad) (ml i) cp) := by rw [World.cell?_alloc_past _ _ _ htb1]; exact g3
        rw [← hBW.cell (p := ⟨tb, to + i * 3, none⟩) htb1] at g1
        rw [← hBW.cell (p := ⟨tb, to + i * 3 + 1, none⟩) htb1] at g2
        have HB1 := Lib.hid (H.out.1.trans (hBW.mono H.out.1.size))
        have HR1 : Hid (W2.rowIs w.heap.size 34 (n * 6) (ptF (trS i nm) (trS i dg) (trV i pv))) := H.out.2.1.of_block (hBW.block _ H.out.2.1.lt)
        have HC1 : Hid (∀ k, k < i → Cp W2 (pv k) (ml k) (mf k)) := fun k hk => (H.out.2.2 k hk).after hBW
        have HX1 := Lib.hid hrW
        clear hc e1 hcell hBW hrW
        go_wp2
        go_still_tail 15, (show Try.prog.follows .mixedOrders = true by kernel_rfl)
        clear g3 q1 qb hmk hcp g3'
        obtain ⟨w2, hw2⟩ : ∃ w2, w2 = ({ heap := W2.heap, tape := W2.tape, drawn := W2.drawn + 1, os := W2.os, output := W2.output } : World) := ⟨_, rfl⟩
        rw [← hw2]
        have HB2 : Hid (Below w.heap.size w w2) := by rw [hw2]; exact ⟨HB1.out.os, HB1.out.tape, HB1.out.output, HB1.out.size, HB1.out.block⟩
        have HR2 : Hid (w2.rowIs w.heap.size 34 (n * 6) (ptF (trS i nm) (trS i dg) (trV i pv))) := by rw [hw2]; exact HR1.out
        have HC2 : Hid (∀ k, k < i → Cp w2 (pv k) (ml k) (mf k)) := by rw [hw2]; exact HC1.out
        have HX2 : Hid (Cp w2 (.slice (some ⟨wr.heap.size, 0, none⟩) (ml i) (ml i)) (ml i) (mf i)) := by rw [hw2]; exact .inr ⟨_, rfl, HX1.out⟩
        clear hw2 g1 g2
        obtain ⟨r0, r1, r2, r3, r4, r5⟩ := pt_cells HR2.out hlt
        have z0 := HR2.out.frozen (i * 6)
        have z1 := HR2.out.frozen (i * 6 + 1)
        have z2 := HR2.out.frozen (i * 6 + 2)
        have z3 := HR2.out.frozen (i * 6 + 3)
        have z4 := HR2.out.frozen (i * 6 + 4)
        have z5 := HR2.out.frozen (i * 6 + 5)
        have HP := Lib.hid (pt_round (.slice (some ⟨wr.heap.size, 0, none⟩) (ml i) (ml i)) rfl HB2.out HR2.out HC2.out HX2.out)
        go_wp2
        go_roundw
        case rel => exact ⟨i + 1, _, by go_num, by omega, HP⟩
        case measure => simp [intOf]; omega
    · have e0 : i = n := by omega
      subst e0
      go_wp2
      exact hexit.out _ pv H.out.1 (ptF_full H.out.2.1) H.out.2.2

end Go.Proofs.Qxb6623375a
