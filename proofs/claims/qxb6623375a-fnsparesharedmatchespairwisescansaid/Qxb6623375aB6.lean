import Derived.Test.Qxb6623375aB2
namespace Go.Proofs.Qxb6623375a
open Go.RowKit

set_option maxRecDepth 1000000 in
set_option maxHeartbeats 4000000 in
theorem law_loop6 {y1 y2 y3 y4 y5 y7 y8 y9 y10 y11 y12 y13 y14 y15 y16 y19 y20 y21 y22 y23 y24 y25 y26 y27 y28 y29 y30 y31 y32 y33 y34 y35 y36 y37 y38 y39 y40 y41 y42 y43 y44 y45 y46 y47 y48 y49 y50 y51 y52 y53 y54 y55 y56 y57 y58 y59 y60 y61 y62 y63 y64 y65 y66 y67 y68 y69 y70 y71 y72 y73 y74 y75 y76 y77 y78 y79 y80 y81 y82 y83 y84 y85 y86 y87 y88 y89 y90 y91 y92 y93 y94 y95 y96 y97 y98 y99 y100 y101 y102 y103 y104 y105 y106 y107 y108 y109 y110 y111 y112 y113 y114 y115 y116 y117 y118 y119 y120 y121 y122 y123 y124 y125 y126 y127 y128 y129 y130 y131 y132 y133 y134 y135 y136 y137 y138 y139 y140 y141 y142 y143 y144 y145 y146 y147 y148 y149 y150 y151 y152 y153 y154 y155 y156 y157 y158 y159 y160 y161 y162 y163 y164 y165 y166 y167 y168 y169 y170 y171 y172 y173 y174 y175 y176 y177 y178 y179 y180 y181 y182 y183 y184 y185 y186 y187 y188 y189 y190 y191 y192 y193 y194 y195 y196 y197 y198 y199 y200 y201 y202 y203 y204 y205 y206 y207 y208 y209 y210 y211 y212 y213 y214 y215 y216 y217 y218 y219 y220 y221 y222 y223 y224 y225 y226 y227 y228 y229 y230 y231 y232 y233 y234 y235 y236 y237 y238 y239 y240 y241 y242 y243 y244 y245 y246 y247 y248 y249 y250 y251 y252 y253 y254 y255 y256 y257 y258 y259 y260 y261 y262 y263 y264 y265 y266 y267 y268 y269 y270 y271 y272 y273 y274 y275 y276 y277 y278 y279 y280 y281 y282 y283 y284 y285 y286 : Value} (w : World) (n c0 PT : Nat) (a0 : Option Addr) (nm dg : Nat → ByteArray) (mv pv : Nat → Value) (ml : Nat → Nat) (mf : Nat → Nat → ByteArray) (i q0 : Nat) (Q : Exit → Act → World → Prop)
    (hT : TagsIn w a0 n nm dg mv ml mf) (hR : w.rowIs PT 34 (n * 6) (ptF nm dg pv)) (hC : ∀ k, k < n → Cp w (pv k) (ml k) (mf k)) (hn : (n : Int) ≤ 256) (hml : ∀ k, k < n → ml k ≤ 1048576) (hin : i < n)
    (hexit : Hid (∀ {u4 u18 u260 u261 u262 u263 u264 u265 u266 u267 u268 u269 u270 u271 u272 u273 u274 u275 u276 u277 u278 u279 u280 u281 u282 u283 u284 u285 u286 : Value} q, Q (.exit 10) ⟨((.slice a0 n c0) :: y1 :: y2 :: y3 :: u4 :: y5 :: (.slice (some ⟨PT, 0, none⟩) n n) :: y7 :: y8 :: y9 :: y10 :: y11 :: y12 :: y13 :: y14 :: y15 :: y16 :: (.int .i64 i) :: u18 :: y19 :: y20 :: y21 :: y22 :: y23 :: y24 :: y25 :: y26 :: y27 :: y28 :: y29 :: y30 :: y31 :: y32 :: y33 :: y34 :: y35 :: y36 :: y37 :: y38 :: y39 :: y40 :: y41 :: y42 :: y43 :: y44 :: y45 :: y46 :: y47 :: y48 :: y49 :: y50 :: y51 :: y52 :: y53 :: y54 :: y55 :: y56 :: y57 :: y58 :: y59 :: y60 :: y61 :: y62 :: y63 :: y64 :: y65 :: y66 :: y67 :: y68 :: y69 :: y70 :: y71 :: y72 :: y73 :: y74 :: y75 :: y76 :: y77 :: y78 :: y79 :: y80 :: y81 :: y82 :: y83 :: y84 :: y85 :: y86 :: y87 :: y88 :: y89 :: y90 :: y91 :: y92 :: y93 :: y94 :: y95 :: y96 :: y97 :: y98 :: y99 :: y100 :: y101 :: y102 :: y103 :: y104 :: y105 :: y106 :: y107 :: y108 :: y109 :: y110 :: y111 :: y112 :: y113 :: y114 :: y115 :: y116 :: y117 :: y118 :: y119 :: y120 :: y121 :: y122 :: y123 :: y124 :: y125 :: y126 :: y127 :: y128 :: y129 :: y130 :: y131 :: y132 :: y133 :: y134 :: y135 :: y136 :: y137 :: y138 :: y139 :: y140 :: y141 :: y142 :: y143 :: y144 :: y145 :: y146 :: y147 :: y148 :: y149 :: y150 :: y151 :: y152 :: y153 :: y154 :: y155 :: y156 :: y157 :: y158 :: y159 :: y160 :: y161 :: y162 :: y163 :: y164 :: y165 :: y166 :: y167 :: y168 :: y169 :: y170 :: y171 :: y172 :: y173 :: y174 :: y175 :: y176 :: y177 :: y178 :: y179 :: y180 :: y181 :: y182 :: y183 :: y184 :: y185 :: y186 :: y187 :: y188 :: y189 :: y190 :: y191 :: y192 :: y193 :: y194 :: y195 :: y196 :: y197 :: y198 :: y199 :: y200 :: y201 :: y202 :: y203 :: y204 :: y205 :: y206 :: y207 :: y208 :: y209 :: y210 :: y211 :: y212 :: y213 :: y214 :: y215 :: y216 :: y217 :: y218 :: y219 :: y220 :: y221 :: y222 :: y223 :: y224 :: y225 :: y226 :: y227 :: y228 :: y229 :: y230 :: y231 :: y232 :: y233 :: y234 :: y235 :: y236 :: y237 :: y238 :: y239 :: y240 :: y241 :: y242 :: y243 :: y244 :: y245 :: y246 :: y247 :: y248 :: y249 :: y250 :: y251 :: y252 :: y253 :: y254 :: y255 :: y256 :: y257 :: y258 :: y259 :: u260 :: u261 :: u262 :: u263 :: u264 :: u265 :: u266 :: u267 :: u268 :: u269 :: u270 :: u271 :: u272 :: u273 :: u274 :: u275 :: u276 :: u277 :: u278 :: u279 :: u280 :: u281 :: u282 :: u283 :: u284 :: u285 :: u286 :: []).toArray, []⟩ (w.drewN q))) :
    Code.wp Try.prog (Code.loop (body3 5)) Q ⟨((.slice a0 n c0) :: y1 :: y2 :: y3 :: y4 :: y5 :: (.slice (some ⟨PT, 0, none⟩) n n) :: y7 :: y8 :: y9 :: y10 :: y11 :: y12 :: y13 :: y14 :: y15 :: y16 :: (.int .i64 i) :: (.int .i64 0) :: y19 :: y20 :: y21 :: y22 :: y23 :: y24 :: y25 :: y26 :: y27 :: y28 :: y29 :: y30 :: y31 :: y32 :: y33 :: y34 :: y35 :: y36 :: y37 :: y38 :: y39 :: y40 :: y41 :: y42 :: y43 :: y44 :: y45 :: y46 :: y47 :: y48 :: y49 :: y50 :: y51 :: y52 :: y53 :: y54 :: y55 :: y56 :: y57 :: y58 :: y59 :: y60 :: y61 :: y62 :: y63 :: y64 :: y65 :: y66 :: y67 :: y68 :: y69 :: y70 :: y71 :: y72 :: y73 :: y74 :: y75 :: y76 :: y77 :: y78 :: y79 :: y80 :: y81 :: y82 :: y83 :: y84 :: y85 :: y86 :: y87 :: y88 :: y89 :: y90 :: y91 :: y92 :: y93 :: y94 :: y95 :: y96 :: y97 :: y98 :: y99 :: y100 :: y101 :: y102 :: y103 :: y104 :: y105 :: y106 :: y107 :: y108 :: y109 :: y110 :: y111 :: y112 :: y113 :: y114 :: y115 :: y116 :: y117 :: y118 :: y119 :: y120 :: y121 :: y122 :: y123 :: y124 :: y125 :: y126 :: y127 :: y128 :: y129 :: y130 :: y131 :: y132 :: y133 :: y134 :: y135 :: y136 :: y137 :: y138 :: y139 :: y140 :: y141 :: y142 :: y143 :: y144 :: y145 :: y146 :: y147 :: y148 :: y149 :: y150 :: y151 :: y152 :: y153 :: y154 :: y155 :: y156 :: y157 :: y158 :: y159 :: y160 :: y161 :: y162 :: y163 :: y164 :: y165 :: y166 :: y167 :: y168 :: y169 :: y170 :: y171 :: y172 :: y173 :: y174 :: y175 :: y176 :: y177 :: y178 :: y179 :: y180 :: y181 :: y182 :: y183 :: y184 :: y185 :: y186 :: y187 :: y188 :: y189 :: y190 :: y191 :: y192 :: y193 :: y194 :: y195 :: y196 :: y197 :: y198 :: y199 :: y200 :: y201 :: y202 :: y203 :: y204 :: y205 :: y206 :: y207 :: y208 :: y209 :: y210 :: y211 :: y212 :: y213 :: y214 :: y215 :: y216 :: y217 :: y218 :: y219 :: y220 :: y221 :: y222 :: y223 :: y224 :: y225 :: y226 :: y227 :: y228 :: y229 :: y230 :: y231 :: y232 :: y233 :: y234 :: y235 :: y236 :: y237 :: y238 :: y239 :: y240 :: y241 :: y242 :: y243 :: y244 :: y245 :: y246 :: y247 :: y248 :: y249 :: y250 :: y251 :: y252 :: y253 :: y254 :: y255 :: y256 :: y257 :: y258 :: y259 :: y260 :: y261 :: y262 :: y263 :: y264 :: y265 :: y266 :: y267 :: y268 :: y269 :: y270 :: y271 :: y272 :: y273 :: y274 :: y275 :: y276 :: y277 :: y278 :: y279 :: y280 :: y281 :: y282 :: y283 :: y284 :: y285 :: y286 :: []).toArray, []⟩ (w.drewN q0) := by
  conv => arg 2; arg 1; whnf
  obtain ⟨tb, to, rfl, htb, hc⟩ := hT.cells (by omega)
  obtain ⟨-, -, g3⟩ := hc i hin
  obtain ⟨-, -, -, -, -, r5⟩ := pt_cells hR hin
  obtain ⟨xa, xc, hx, hxc⟩ := (hT.mans i hin).strs
  obtain ⟨pa, pc, hp, hpc⟩ := (hC i hin).strs
  rw [hx] at g3
  rw [hp] at r5
  have hm : (ml i : Int) ≤ 1048576 := by have := hml i hin; omega
  have hin' : (i : Int) < n := by omega
  have HX := Lib.hid hxc
  have HP := Lib.hid hpc
  clear hc hx hxc hp hpc hT hR hC hml
  go_loopw [18] (fun zk wr => ∃ (k q : Nat), zk = .int .i64 k ∧ (k : Int) ≤ ml i ∧ wr = w.drewN q) (fun zk _ => ml i - (intOf zk).toNat)
  case atStart => exact ⟨0, q0, rfl, by omega, rfl⟩
  case round =>
    obtain ⟨k, q, rfl, hk, rfl⟩ := hrel
    by_cases hlt : k < ml i
    · have b0 : (k : Int) < ml i := by omega
      obtain ⟨xb, xo, rfl, -, hxcell⟩ := HX.out (by omega)
      obtain ⟨pb, po, rfl, -, hpcell⟩ := HP.out (by omega)
      have g4 := hxcell k hlt
      have g5 := hpcell k hlt
      clear hxcell hpcell
      go_wp2
      go_quiet (fail)
      go_wp2
      go_roundw
      case rel => exact ⟨k + 1, _, by go_num, by omega, rfl⟩
      case measure => simp [intOf]; omega
    · have e0 : k = ml i := by omega
      subst e0
      go_wp2
      exact hexit.out q

set_option maxRecDepth 1000000 in
set_option maxHeartbeats 4000000 in
theorem law_loop5 {y1 y2 y3 y4 y7 y8 y9 y10 y11 y12 y13 y14 y15 y16 y18 y19 y20 y21 y22 y23 y24 y25 y26 y27 y28 y29 y30 y31 y32 y33 y34 y35 y36 y37 y38 y39 y40 y41 y42 y43 y44 y45 y46 y47 y48 y49 y50 y51 y52 y53 y54 y55 y56 y57 y58 y59 y60 y61 y62 y63 y64 y65 y66 y67 y68 y69 y70 y71 y72 y73 y74 y75 y76 y77 y78 y79 y80 y81 y82 y83 y84 y85 y86 y87 y88 y89 y90 y91 y92 y93 y94 y95 y96 y97 y98 y99 y100 y101 y102 y103 y104 y105 y106 y107 y108 y109 y110 y111 y112 y113 y114 y115 y116 y117 y118 y119 y120 y121 y122 y123 y124 y125 y126 y127 y128 y129 y130 y131 y132 y133 y134 y135 y136 y137 y138 y139 y140 y141 y142 y143 y144 y145 y146 y147 y148 y149 y150 y151 y152 y153 y154 y155 y156 y157 y158 y159 y160 y161 y162 y163 y164 y165 y166 y167 y168 y169 y170 y171 y172 y173 y174 y175 y176 y177 y178 y179 y180 y181 y182 y183 y184 y185 y186 y187 y188 y189 y190 y191 y192 y193 y194 y195 y196 y197 y198 y199 y200 y201 y202 y203 y204 y205 y206 y207 y208 y209 y210 y211 y212 y213 y214 y215 y216 y217 y218 y219 y220 y221 y222 y223 y224 y225 y226 y227 y228 y229 y230 y231 y232 y233 y234 y235 y236 y237 y238 y239 y240 y241 y242 y243 y244 y245 y246 y247 y248 y249 y250 y251 y252 y253 y254 y255 y256 y257 y258 y259 y260 y261 y262 y263 y264 y265 y266 y267 y268 y269 y270 y271 y272 y273 y274 y275 y276 y277 y278 y279 y280 y281 y282 y283 y284 y285 y286 : Value} (w : World) (n c0 PT : Nat) (a0 : Option Addr) (nm dg : Nat → ByteArray) (mv pv : Nat → Value) (ml : Nat → Nat) (mf : Nat → Nat → ByteArray) (Q : Exit → Act → World → Prop)
    (hT : TagsIn w a0 n nm dg mv ml mf) (hR : w.rowIs PT 34 (n * 6) (ptF nm dg pv)) (hC : ∀ k, k < n → Cp w (pv k) (ml k) (mf k)) (hn : (n : Int) ≤ 256) (hml : ∀ k, k < n → ml k ≤ 1048576)
    (hexit : Hid (∀ {u4 u17 u18 u218 u219 u220 u221 u222 u223 u224 u225 u226 u227 u228 u229 u230 u231 u232 u233 u234 u235 u236 u237 u238 u239 u240 u241 u242 u243 u244 u245 u246 u247 u248 u249 u250 u251 u252 u253 u254 u255 u256 u257 u258 u259 u260 u261 u262 u263 u264 u265 u266 u267 u268 u269 u270 u271 u272 u273 u274 u275 u276 u277 u278 u279 u280 u281 u282 u283 u284 u285 u286 : Value} q, Q (.exit 8) ⟨((.slice a0 n c0) :: y1 :: y2 :: y3 :: u4 :: (.int .i64 n) :: (.slice (some ⟨PT, 0, none⟩) n n) :: y7 :: y8 :: y9 :: y10 :: y11 :: y12 :: y13 :: y14 :: y15 :: y16 :: u17 :: u18 :: y19 :: y20 :: y21 :: y22 :: y23 :: y24 :: y25 :: y26 :: y27 :: y28 :: y29 :: y30 :: y31 :: y32 :: y33 :: y34 :: y35 :: y36 :: y37 :: y38 :: y39 :: y40 :: y41 :: y42 :: y43 :: y44 :: y45 :: y46 :: y47 :: y48 :: y49 :: y50 :: y51 :: y52 :: y53 :: y54 :: y55 :: y56 :: y57 :: y58 :: y59 :: y60 :: y61 :: y62 :: y63 :: y64 :: y65 :: y66 :: y67 :: y68 :: y69 :: y70 :: y71 :: y72 :: y73 :: y74 :: y75 :: y76 :: y77 :: y78 :: y79 :: y80 :: y81 :: y82 :: y83 :: y84 :: y85 :: y86 :: y87 :: y88 :: y89 :: y90 :: y91 :: y92 :: y93 :: y94 :: y95 :: y96 :: y97 :: y98 :: y99 :: y100 :: y101 :: y102 :: y103 :: y104 :: y105 :: y106 :: y107 :: y108 :: y109 :: y110 :: y111 :: y112 :: y113 :: y114 :: y115 :: y116 :: y117 :: y118 :: y119 :: y120 :: y121 :: y122 :: y123 :: y124 :: y125 :: y126 :: y127 :: y128 :: y129 :: y130 :: y131 :: y132 :: y133 :: y134 :: y135 :: y136 :: y137 :: y138 :: y139 :: y140 :: y141 :: y142 :: y143 :: y144 :: y145 :: y146 :: y147 :: y148 :: y149 :: y150 :: y151 :: y152 :: y153 :: y154 :: y155 :: y156 :: y157 :: y158 :: y159 :: y160 :: y161 :: y162 :: y163 :: y164 :: y165 :: y166 :: y167 :: y168 :: y169 :: y170 :: y171 :: y172 :: y173 :: y174 :: y175 :: y176 :: y177 :: y178 :: y179 :: y180 :: y181 :: y182 :: y183 :: y184 :: y185 :: y186 :: y187 :: y188 :: y189 :: y190 :: y191 :: y192 :: y193 :: y194 :: y195 :: y196 :: y197 :: y198 :: y199 :: y200 :: y201 :: y202 :: y203 :: y204 :: y205 :: y206 :: y207 :: y208 :: y209 :: y210 :: y211 :: y212 :: y213 :: y214 :: y215 :: y216 :: y217 :: u218 :: u219 :: u220 :: u221 :: u222 :: u223 :: u224 :: u225 :: u226 :: u227 :: u228 :: u229 :: u230 :: u231 :: u232 :: u233 :: u234 :: u235 :: u236 :: u237 :: u238 :: u239 :: u240 :: u241 :: u242 :: u243 :: u244 :: u245 :: u246 :: u247 :: u248 :: u249 :: u250 :: u251 :: u252 :: u253 :: u254 :: u255 :: u256 :: u257 :: u258 :: u259 :: u260 :: u261 :: u262 :: u263 :: u264 :: u265 :: u266 :: u267 :: u268 :: u269 :: u270 :: u271 :: u272 :: u273 :: u274 :: u275 :: u276 :: u277 :: u278 :: u279 :: u280 :: u281 :: u282 :: u283 :: u284 :: u285 :: u286 :: []).toArray, []⟩ (w.drewN q))) :
    Code.wp Try.prog (Code.loop (body3 4)) Q ⟨((.slice a0 n c0) :: y1 :: y2 :: y3 :: y4 :: (.int .i64 n) :: (.slice (some ⟨PT, 0, none⟩) n n) :: y7 :: y8 :: y9 :: y10 :: y11 :: y12 :: y13 :: y14 :: y15 :: y16 :: (.int .i64 0) :: y18 :: y19 :: y20 :: y21 :: y22 :: y23 :: y24 :: y25 :: y26 :: y27 :: y28 :: y29 :: y30 :: y31 :: y32 :: y33 :: y34 :: y35 :: y36 :: y37 :: y38 :: y39 :: y40 :: y41 :: y42 :: y43 :: y44 :: y45 :: y46 :: y47 :: y48 :: y49 :: y50 :: y51 :: y52 :: y53 :: y54 :: y55 :: y56 :: y57 :: y58 :: y59 :: y60 :: y61 :: y62 :: y63 :: y64 :: y65 :: y66 :: y67 :: y68 :: y69 :: y70 :: y71 :: y72 :: y73 :: y74 :: y75 :: y76 :: y77 :: y78 :: y79 :: y80 :: y81 :: y82 :: y83 :: y84 :: y85 :: y86 :: y87 :: y88 :: y89 :: y90 :: y91 :: y92 :: y93 :: y94 :: y95 :: y96 :: y97 :: y98 :: y99 :: y100 :: y101 :: y102 :: y103 :: y104 :: y105 :: y106 :: y107 :: y108 :: y109 :: y110 :: y111 :: y112 :: y113 :: y114 :: y115 :: y116 :: y117 :: y118 :: y119 :: y120 :: y121 :: y122 :: y123 :: y124 :: y125 :: y126 :: y127 :: y128 :: y129 :: y130 :: y131 :: y132 :: y133 :: y134 :: y135 :: y136 :: y137 :: y138 :: y139 :: y140 :: y141 :: y142 :: y143 :: y144 :: y145 :: y146 :: y147 :: y148 :: y149 :: y150 :: y151 :: y152 :: y153 :: y154 :: y155 :: y156 :: y157 :: y158 :: y159 :: y160 :: y161 :: y162 :: y163 :: y164 :: y165 :: y166 :: y167 :: y168 :: y169 :: y170 :: y171 :: y172 :: y173 :: y174 :: y175 :: y176 :: y177 :: y178 :: y179 :: y180 :: y181 :: y182 :: y183 :: y184 :: y185 :: y186 :: y187 :: y188 :: y189 :: y190 :: y191 :: y192 :: y193 :: y194 :: y195 :: y196 :: y197 :: y198 :: y199 :: y200 :: y201 :: y202 :: y203 :: y204 :: y205 :: y206 :: y207 :: y208 :: y209 :: y210 :: y211 :: y212 :: y213 :: y214 :: y215 :: y216 :: y217 :: y218 :: y219 :: y220 :: y221 :: y222 :: y223 :: y224 :: y225 :: y226 :: y227 :: y228 :: y229 :: y230 :: y231 :: y232 :: y233 :: y234 :: y235 :: y236 :: y237 :: y238 :: y239 :: y240 :: y241 :: y242 :: y243 :: y244 :: y245 :: y246 :: y247 :: y248 :: y249 :: y250 :: y251 :: y252 :: y253 :: y254 :: y255 :: y256 :: y257 :: y258 :: y259 :: y260 :: y261 :: y262 :: y263 :: y264 :: y265 :: y266 :: y267 :: y268 :: y269 :: y270 :: y271 :: y272 :: y273 :: y274 :: y275 :: y276 :: y277 :: y278 :: y279 :: y280 :: y281 :: y282 :: y283 :: y284 :: y285 :: y286 :: []).toArray, []⟩ w := by
  conv => arg 2; arg 1; whnf
  have HT := Lib.hid hT
  have HR := Lib.hid hR
  have HC := Lib.hid hC
  have HML := Lib.hid hml
  clear hT hR hC hml
  go_loopw [17] (fun zi wr => ∃ (i q : Nat), zi = .int .i64 i ∧ (i : Int) ≤ n ∧ wr = w.drewN q) (fun zi _ => n - (intOf zi).toNat)
  case atStart => exact ⟨0, 0, rfl, by omega, rfl⟩
  case round =>
    obtain ⟨i, q, rfl, hi, rfl⟩ := hrel
    by_cases hlt : i < n
    · have b0 : (i : Int) < n := by omega
      obtain ⟨tb, to, rfl, htb, hc⟩ := HT.out.cells (by omega)
      obtain ⟨g1, g2, g3⟩ := hc i hlt
      obtain ⟨r0, -, -, -, r4, r5⟩ := pt_cells HR.out hlt
      obtain ⟨xa, xc, hx, -⟩ := (HT.out.mans i hlt).strs
      obtain ⟨pa, pc, hp, -⟩ := (HC.out i hlt).strs
      rw [hx] at g3
      rw [hp] at r5
      have hm : (ml i : Int) ≤ 1048576 := by have := HML.out i hlt; omega
      clear hc hx hp
      go_wp2
      go_quiet (fail)
      rw [World.drewN_drewN]
      obtain ⟨q2, hq2⟩ : ∃ q2, q2 = q + nq := ⟨_, rfl⟩
      rw [← hq2]
      clear hq2
      go_wp2
      go_quiet (fail)
      rw [World.drewN_drewN]
      obtain ⟨q3, hq3⟩ : ∃ q3, q3 = q2 + nq := ⟨_, rfl⟩
      rw [← hq3]
      clear hq3
      go_wp2
      refine law_loop6 w n c0 PT _ nm dg mv pv ml mf i q3 _ HT.out HR.out HC.out hn HML.out hlt ?_
      refine Lib.hid ?_
      intros
      rename_i q4
      clear g1 g2 g3 r0 r4 r5
      go_wp2
      go_roundw
      case rel => exact ⟨i + 1, q4, by go_num, by omega, rfl⟩
      case measure => simp [intOf]; omega
    · have e0 : i = n := by omega
      subst e0
      go_wp2
      exact hexit.out q

end Go.Proofs.Qxb6623375a
