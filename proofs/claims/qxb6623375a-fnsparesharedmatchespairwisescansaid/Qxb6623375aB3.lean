import Derived.Test.Qxb6623375aB2
import Derived.StillTailTactics
namespace Go.Proofs.Qxb6623375a
open Go.RowKit

set_option maxRecDepth 1000000 in
set_option maxHeartbeats 4000000 in
theorem law_loop2 {y0 y2 y3 y4 y6 y7 y8 y11 y12 y13 y14 y15 y16 y17 y18 y19 y20 y21 y22 y23 y24 y25 y26 y27 y28 y29 y30 y31 y32 y33 y34 y35 y36 y37 y38 y39 y40 y41 y42 y43 y44 y45 y46 y47 y48 y49 y50 y51 y52 y53 y54 y55 y56 y57 y58 y59 y60 y61 y62 y63 y64 y65 y66 y67 y68 y69 y70 y71 y72 y73 y74 y75 y76 y77 y78 y79 y80 y81 y82 y83 y84 y85 y86 y87 y88 y89 y90 y91 y92 y93 y94 y95 y96 y97 y98 y99 y100 y101 y102 y103 y104 y105 y106 y107 y108 y109 y110 y111 y112 y113 y114 y115 y116 y117 y118 y119 y120 y121 y122 y123 y124 y125 y126 y127 y128 y129 y130 y131 y132 y133 y134 y135 y136 y137 y138 y139 y140 y141 y142 y143 y144 y145 y146 y147 y148 y149 y150 y151 y152 y153 y154 y155 y156 y157 y158 y159 y160 y161 y162 y163 y164 y165 y166 y167 y168 y169 y170 y171 y172 y173 y174 y175 y176 y177 y178 y179 y180 y181 y182 y183 y184 y185 y186 y187 y188 y189 y190 y191 y192 y193 y194 y195 y196 y197 y198 y199 y200 y201 y202 y203 y204 y205 y206 y207 y208 y209 y210 y211 y212 y213 y214 y215 y216 y217 y218 y219 y220 y221 y222 y223 y224 y225 y226 y227 y228 y229 y230 y231 y232 y233 y234 y235 y236 y237 y238 y239 y240 y241 y242 y243 y244 y245 y246 y247 y248 y249 y250 y251 y252 y253 y254 y255 y256 y257 y258 y259 y260 y261 y262 y263 y264 y265 y266 y267 y268 y269 y270 y271 y272 y273 y274 y275 y276 y277 y278 y279 y280 y281 y282 y283 y284 y285 y286 : Value} (w w1 : World) (n c1 : Nat) (a1 : Option Addr) (ac im : Nat → ByteArray) (ru : Nat → Int) (un : Nat → Bool) (Q : Exit → Act → World → Prop)
    (hD : DecsIn w a1 n ac im ru un) (hn : (n : Int) ≤ 256) (hB : Below w.heap.size w w1) (hR : w1.rowIs w.heap.size 40 (n * 4) (pdF (trS 0 ac) (trS 0 im) (trI 0 ru) (trB 0 un)))
    (hexit : Hid (∀ {u10 u85 u86 u87 u88 u89 u90 u91 u92 u93 u94 u95 u96 u97 u98 u99 u100 u101 u102 u103 u104 u105 u106 u107 u108 u109 u110 u111 u112 u113 : Value} w', Below w.heap.size w w' → w'.rowIs w.heap.size 40 (n * 4) (pdF ac im ru un) → Q (.exit 2) ⟨(y0 :: (.slice a1 n c1) :: y2 :: y3 :: y4 :: (.int .i64 n) :: y6 :: y7 :: y8 :: (.slice (some ⟨w.heap.size, 0, none⟩) n n) :: u10 :: y11 :: y12 :: y13 :: y14 :: y15 :: y16 :: y17 :: y18 :: y19 :: y20 :: y21 :: y22 :: y23 :: y24 :: y25 :: y26 :: y27 :: y28 :: y29 :: y30 :: y31 :: y32 :: y33 :: y34 :: y35 :: y36 :: y37 :: y38 :: y39 :: y40 :: y41 :: y42 :: y43 :: y44 :: y45 :: y46 :: y47 :: y48 :: y49 :: y50 :: y51 :: y52 :: y53 :: y54 :: y55 :: y56 :: y57 :: y58 :: y59 :: y60 :: y61 :: y62 :: y63 :: y64 :: y65 :: y66 :: y67 :: y68 :: y69 :: y70 :: y71 :: y72 :: y73 :: y74 :: y75 :: y76 :: y77 :: y78 :: y79 :: y80 :: y81 :: y82 :: y83 :: y84 :: u85 :: u86 :: u87 :: u88 :: u89 :: u90 :: u91 :: u92 :: u93 :: u94 :: u95 :: u96 :: u97 :: u98 :: u99 :: u100 :: u101 :: u102 :: u103 :: u104 :: u105 :: u106 :: u107 :: u108 :: u109 :: u110 :: u111 :: u112 :: u113 :: y114 :: y115 :: y116 :: y117 :: y118 :: y119 :: y120 :: y121 :: y122 :: y123 :: y124 :: y125 :: y126 :: y127 :: y128 :: y129 :: y130 :: y131 :: y132 :: y133 :: y134 :: y135 :: y136 :: y137 :: y138 :: y139 :: y140 :: y141 :: y142 :: y143 :: y144 :: y145 :: y146 :: y147 :: y148 :: y149 :: y150 :: y151 :: y152 :: y153 :: y154 :: y155 :: y156 :: y157 :: y158 :: y159 :: y160 :: y161 :: y162 :: y163 :: y164 :: y165 :: y166 :: y167 :: y168 :: y169 :: y170 :: y171 :: y172 :: y173 :: y174 :: y175 :: y176 :: y177 :: y178 :: y179 :: y180 :: y181 :: y182 :: y183 :: y184 :: y185 :: y186 :: y187 :: y188 :: y189 :: y190 :: y191 :: y192 :: y193 :: y194 :: y195 :: y196 :: y197 :: y198 :: y199 :: y200 :: y201 :: y202 :: y203 :: y204 :: y205 :: y206 :: y207 :: y208 :: y209 :: y210 :: y211 :: y212 :: y213 :: y214 :: y215 :: y216 :: y217 :: y218 :: y219 :: y220 :: y221 :: y222 :: y223 :: y224 :: y225 :: y226 :: y227 :: y228 :: y229 :: y230 :: y231 :: y232 :: y233 :: y234 :: y235 :: y236 :: y237 :: y238 :: y239 :: y240 :: y241 :: y242 :: y243 :: y244 :: y245 :: y246 :: y247 :: y248 :: y249 :: y250 :: y251 :: y252 :: y253 :: y254 :: y255 :: y256 :: y257 :: y258 :: y259 :: y260 :: y261 :: y262 :: y263 :: y264 :: y265 :: y266 :: y267 :: y268 :: y269 :: y270 :: y271 :: y272 :: y273 :: y274 :: y275 :: y276 :: y277 :: y278 :: y279 :: y280 :: y281 :: y282 :: y283 :: y284 :: y285 :: y286 :: []).toArray, []⟩ w')) :
    Code.wp Try.prog (Code.loop (body3 1)) Q ⟨(y0 :: (.slice a1 n c1) :: y2 :: y3 :: y4 :: (.int .i64 n) :: y6 :: y7 :: y8 :: (.slice (some ⟨w.heap.size, 0, none⟩) n n) :: (.int .i64 0) :: y11 :: y12 :: y13 :: y14 :: y15 :: y16 :: y17 :: y18 :: y19 :: y20 :: y21 :: y22 :: y23 :: y24 :: y25 :: y26 :: y27 :: y28 :: y29 :: y30 :: y31 :: y32 :: y33 :: y34 :: y35 :: y36 :: y37 :: y38 :: y39 :: y40 :: y41 :: y42 :: y43 :: y44 :: y45 :: y46 :: y47 :: y48 :: y49 :: y50 :: y51 :: y52 :: y53 :: y54 :: y55 :: y56 :: y57 :: y58 :: y59 :: y60 :: y61 :: y62 :: y63 :: y64 :: y65 :: y66 :: y67 :: y68 :: y69 :: y70 :: y71 :: y72 :: y73 :: y74 :: y75 :: y76 :: y77 :: y78 :: y79 :: y80 :: y81 :: y82 :: y83 :: y84 :: y85 :: y86 :: y87 :: y88 :: y89 :: y90 :: y91 :: y92 :: y93 :: y94 :: y95 :: y96 :: y97 :: y98 :: y99 :: y100 :: y101 :: y102 :: y103 :: y104 :: y105 :: y106 :: y107 :: y108 :: y109 :: y110 :: y111 :: y112 :: y113 :: y114 :: y115 :: y116 :: y117 :: y118 :: y119 :: y120 :: y121 :: y122 :: y123 :: y124 :: y125 :: y126 :: y127 :: y128 :: y129 :: y130 :: y131 :: y132 :: y133 :: y134 :: y135 :: y136 :: y137 :: y138 :: y139 :: y140 :: y141 :: y142 :: y143 :: y144 :: y145 :: y146 :: y147 :: y148 :: y149 :: y150 :: y151 :: y152 :: y153 :: y154 :: y155 :: y156 :: y157 :: y158 :: y159 :: y160 :: y161 :: y162 :: y163 :: y164 :: y165 :: y166 :: y167 :: y168 :: y169 :: y170 :: y171 :: y172 :: y173 :: y174 :: y175 :: y176 :: y177 :: y178 :: y179 :: y180 :: y181 :: y182 :: y183 :: y184 :: y185 :: y186 :: y187 :: y188 :: y189 :: y190 :: y191 :: y192 :: y193 :: y194 :: y195 :: y196 :: y197 :: y198 :: y199 :: y200 :: y201 :: y202 :: y203 :: y204 :: y205 :: y206 :: y207 :: y208 :: y209 :: y210 :: y211 :: y212 :: y213 :: y214 :: y215 :: y216 :: y217 :: y218 :: y219 :: y220 :: y221 :: y222 :: y223 :: y224 :: y225 :: y226 :: y227 :: y228 :: y229 :: y230 :: y231 :: y232 :: y233 :: y234 :: y235 :: y236 :: y237 :: y238 :: y239 :: y240 :: y241 :: y242 :: y243 :: y244 :: y245 :: y246 :: y247 :: y248 :: y249 :: y250 :: y251 :: y252 :: y253 :: y254 :: y255 :: y256 :: y257 :: y258 :: y259 :: y260 :: y261 :: y262 :: y263 :: y264 :: y265 :: y266 :: y267 :: y268 :: y269 :: y270 :: y271 :: y272 :: y273 :: y274 :: y275 :: y276 :: y277 :: y278 :: y279 :: y280 :: y281 :: y282 :: y283 :: y284 :: y285 :: y286 :: []).toArray, []⟩ w1 := by
  conv => arg 2; arg 1; whnf
  have HD := Lib.hid hD
  clear hD
  go_loopw [10] (fun zi wr => ∃ i : Nat, zi = .int .i64 i ∧ (i : Int) ≤ n ∧ Hid (Below w.heap.size w wr ∧ wr.rowIs w.heap.size 40 (n * 4) (pdF (trS i ac) (trS i im) (trI i ru) (trB i un)))) (fun zi _ => n - (intOf zi).toNat)
  case atStart => exact ⟨0, rfl, by omega, hB, hR⟩
  case round =>
    obtain ⟨i, rfl, hi, H⟩ := hrel
    clear hB hR
    by_cases hlt : i < n
    · have b0 : (i : Int) < n := by omega
      obtain ⟨tb, to, rfl, htb, hc⟩ := HD.out.cells (by omega)
      obtain ⟨g1, g2, g3, g4⟩ := hc i hlt
      rw [← H.out.1.cell (p := ⟨tb, to + i * 4, none⟩) htb] at g1
      rw [← H.out.1.cell (p := ⟨tb, to + i * 4 + 1, none⟩) htb] at g2
      rw [← H.out.1.cell (p := ⟨tb, to + i * 4 + 2, none⟩) htb] at g3
      rw [← H.out.1.cell (p := ⟨tb, to + i * 4 + 3, none⟩) htb] at g4
      clear hc
      go_wp2
      go_still_tail 24, (show Try.prog.follows .mixedOrders = true by kernel_rfl)
      obtain ⟨w2, hw2⟩ : ∃ w2, w2 = ({ heap := wr.heap, tape := wr.tape, drawn := wr.drawn + 1, os := wr.os, output := wr.output } : World) := ⟨_, rfl⟩
      rw [← hw2]
      have HB2 : Hid (Below w.heap.size w w2) := by rw [hw2]; exact ⟨H.out.1.os, H.out.1.tape, H.out.1.output, H.out.1.size, H.out.1.block⟩
      have HR2 : Hid (w2.rowIs w.heap.size 40 (n * 4) (pdF (trS i ac) (trS i im) (trI i ru) (trB i un))) := by rw [hw2]; exact H.out.2
      clear hw2 g1 g2 g3 g4
      obtain ⟨r0, r1, r2, r3⟩ := pd_cells HR2.out hlt
      have z0 := HR2.out.frozen (i * 4)
      have z1 := HR2.out.frozen (i * 4 + 1)
      have z2 := HR2.out.frozen (i * 4 + 2)
      have z3 := HR2.out.frozen (i * 4 + 3)
      have hle : w.heap.size ≤ w.heap.size := Nat.le_refl _
      have HP : Hid (Below w.heap.size w ((((w2.setCell ⟨w.heap.size, i * 4, none⟩ (.string (ac i))).setCell ⟨w.heap.size, i * 4 + 1, none⟩ (.int .i64 (ru i))).setCell ⟨w.heap.size, i * 4 + 2, none⟩ (.string (im i))).setCell ⟨w.heap.size, i * 4 + 3, none⟩ (.bool (un i))) ∧ ((((w2.setCell ⟨w.heap.size, i * 4, none⟩ (.string (ac i))).setCell ⟨w.heap.size, i * 4 + 1, none⟩ (.int .i64 (ru i))).setCell ⟨w.heap.size, i * 4 + 2, none⟩ (.string (im i))).setCell ⟨w.heap.size, i * 4 + 3, none⟩ (.bool (un i))).rowIs w.heap.size 40 (n * 4) (pdF (trS (i + 1) ac) (trS (i + 1) im) (trI (i + 1) ru) (trB (i + 1) un))) :=
        ⟨(((HB2.out.setCell (p := ⟨w.heap.size, i * 4, none⟩) hle _).setCell (p := ⟨w.heap.size, i * 4 + 1, none⟩) hle _).setCell (p := ⟨w.heap.size, i * 4 + 2, none⟩) hle _).setCell (p := ⟨w.heap.size, i * 4 + 3, none⟩) hle _, pd_put HR2.out⟩
      go_wp2
      go_roundw
      case rel => exact ⟨i + 1, by go_num, by omega, HP⟩
      case measure => simp [intOf]; omega
    · have e0 : i = n := by omega
      subst e0
      go_wp2
      exact hexit.out _ H.out.1 (pdF_full H.out.2)

end Go.Proofs.Qxb6623375a
