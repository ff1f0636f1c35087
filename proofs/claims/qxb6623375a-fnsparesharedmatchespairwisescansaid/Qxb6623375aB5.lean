import Derived.Test.Qxb6623375aB4
import Derived.StillTailTactics
namespace Go.Proofs.Qxb6623375a
open Go.RowKit

theorem Below.drewN {B : Nat} {w w' : World} (h : Below B w w') (q : Nat) : Below B w (w'.drewN q) := ⟨h.os, h.tape, h.output, h.size, h.block⟩

set_option maxRecDepth 1000000 in
set_option maxHeartbeats 4000000 in
theorem law_loop3 {y2 y3 y4 y6 y7 y8 y10 y12 y13 y14 y15 y16 y17 y18 y19 y20 y21 y22 y23 y24 y25 y26 y27 y28 y29 y30 y31 y32 y33 y34 y35 y36 y37 y38 y39 y40 y41 y42 y43 y44 y45 y46 y47 y48 y49 y50 y51 y52 y53 y54 y55 y56 y57 y58 y59 y60 y61 y62 y63 y64 y65 y66 y67 y68 y69 y70 y71 y72 y73 y74 y75 y76 y77 y78 y79 y80 y81 y82 y83 y84 y85 y86 y87 y88 y89 y90 y91 y92 y93 y94 y95 y96 y97 y98 y99 y100 y101 y102 y103 y104 y105 y106 y107 y108 y109 y110 y111 y112 y113 y114 y115 y116 y117 y118 y119 y120 y121 y122 y123 y124 y125 y126 y127 y128 y129 y130 y131 y132 y133 y134 y135 y136 y137 y138 y139 y140 y141 y142 y143 y144 y145 y146 y147 y148 y149 y150 y151 y152 y153 y154 y155 y156 y157 y158 y159 y160 y161 y162 y163 y164 y165 y166 y167 y168 y169 y170 y171 y172 y173 y174 y175 y176 y177 y178 y179 y180 y181 y182 y183 y184 y185 y186 y187 y188 y189 y190 y191 y192 y193 y194 y195 y196 y197 y198 y199 y200 y201 y202 y203 y204 y205 y206 y207 y208 y209 y210 y211 y212 y213 y214 y215 y216 y217 y218 y219 y220 y221 y222 y223 y224 y225 y226 y227 y228 y229 y230 y231 y232 y233 y234 y235 y236 y237 y238 y239 y240 y241 y242 y243 y244 y245 y246 y247 y248 y249 y250 y251 y252 y253 y254 y255 y256 y257 y258 y259 y260 y261 y262 y263 y264 y265 y266 y267 y268 y269 y270 y271 y272 y273 y274 y275 y276 y277 y278 y279 y280 y281 y282 y283 y284 y285 y286 : Value} (w w1 : World) (n c0 c1 PD : Nat) (a0 a1 : Option Addr) (nm dg ac im : Nat → ByteArray) (mv : Nat → Value) (ml : Nat → Nat) (mf : Nat → Nat → ByteArray) (ru : Nat → Int) (un : Nat → Bool) (Q : Exit → Act → World → Prop)
    (hT : TagsIn w a0 n nm dg mv ml mf) (hD : DecsIn w a1 n ac im ru un) (hn : (n : Int) ≤ 256) (hml : ∀ k, k < n → ml k ≤ 1048576) (hR : w.rowIs PD 40 (n * 4) (pdF (acE (bst nm dg ac ml mf n) dg ac n) (imE (bst nm dg ac ml mf n) dg ac im n) ru un)) (hB : Below w.heap.size w w1)
    (hexit : Hid (∀ {u4 u11 u12 u13 u14 u15 u16 u117 u118 u119 u120 u121 u122 u123 u124 u125 u126 u127 u128 u129 u130 u131 u132 u133 u134 u135 u136 u137 u138 u139 u140 u141 u142 u143 u144 u145 u146 u147 u148 u149 u150 u151 u152 u153 u154 u155 u156 u157 u158 u159 u160 u161 u162 u163 u164 u165 u166 u167 u168 u169 u170 u171 u172 u173 u174 u175 u176 u177 u178 u179 u180 u181 u182 u183 u184 u185 u186 u187 u188 u189 u190 u191 u192 u193 u194 u195 u196 u197 u198 u199 u200 u201 u202 u203 u204 u205 u206 u207 u208 u209 u210 u211 u212 u213 u214 u215 u216 u217 : Value} w', Below w.heap.size w w' → Q (.exit 4) ⟨((.slice a0 n c0) :: (.slice a1 n c1) :: y2 :: y3 :: u4 :: (.int .i64 n) :: y6 :: y7 :: y8 :: (.slice (some ⟨PD, 0, none⟩) n n) :: y10 :: u11 :: u12 :: u13 :: u14 :: u15 :: u16 :: y17 :: y18 :: y19 :: y20 :: y21 :: y22 :: y23 :: y24 :: y25 :: y26 :: y27 :: y28 :: y29 :: y30 :: y31 :: y32 :: y33 :: y34 :: y35 :: y36 :: y37 :: y38 :: y39 :: y40 :: y41 :: y42 :: y43 :: y44 :: y45 :: y46 :: y47 :: y48 :: y49 :: y50 :: y51 :: y52 :: y53 :: y54 :: y55 :: y56 :: y57 :: y58 :: y59 :: y60 :: y61 :: y62 :: y63 :: y64 :: y65 :: y66 :: y67 :: y68 :: y69 :: y70 :: y71 :: y72 :: y73 :: y74 :: y75 :: y76 :: y77 :: y78 :: y79 :: y80 :: y81 :: y82 :: y83 :: y84 :: y85 :: y86 :: y87 :: y88 :: y89 :: y90 :: y91 :: y92 :: y93 :: y94 :: y95 :: y96 :: y97 :: y98 :: y99 :: y100 :: y101 :: y102 :: y103 :: y104 :: y105 :: y106 :: y107 :: y108 :: y109 :: y110 :: y111 :: y112 :: y113 :: y114 :: y115 :: y116 :: u117 :: u118 :: u119 :: u120 :: u121 :: u122 :: u123 :: u124 :: u125 :: u126 :: u127 :: u128 :: u129 :: u130 :: u131 :: u132 :: u133 :: u134 :: u135 :: u136 :: u137 :: u138 :: u139 :: u140 :: u141 :: u142 :: u143 :: u144 :: u145 :: u146 :: u147 :: u148 :: u149 :: u150 :: u151 :: u152 :: u153 :: u154 :: u155 :: u156 :: u157 :: u158 :: u159 :: u160 :: u161 :: u162 :: u163 :: u164 :: u165 :: u166 :: u167 :: u168 :: u169 :: u170 :: u171 :: u172 :: u173 :: u174 :: u175 :: u176 :: u177 :: u178 :: u179 :: u180 :: u181 :: u182 :: u183 :: u184 :: u185 :: u186 :: u187 :: u188 :: u189 :: u190 :: u191 :: u192 :: u193 :: u194 :: u195 :: u196 :: u197 :: u198 :: u199 :: u200 :: u201 :: u202 :: u203 :: u204 :: u205 :: u206 :: u207 :: u208 :: u209 :: u210 :: u211 :: u212 :: u213 :: u214 :: u215 :: u216 :: u217 :: y218 :: y219 :: y220 :: y221 :: y222 :: y223 :: y224 :: y225 :: y226 :: y227 :: y228 :: y229 :: y230 :: y231 :: y232 :: y233 :: y234 :: y235 :: y236 :: y237 :: y238 :: y239 :: y240 :: y241 :: y242 :: y243 :: y244 :: y245 :: y246 :: y247 :: y248 :: y249 :: y250 :: y251 :: y252 :: y253 :: y254 :: y255 :: y256 :: y257 :: y258 :: y259 :: y260 :: y261 :: y262 :: y263 :: y264 :: y265 :: y266 :: y267 :: y268 :: y269 :: y270 :: y271 :: y272 :: y273 :: y274 :: y275 :: y276 :: y277 :: y278 :: y279 :: y280 :: y281 :: y282 :: y283 :: y284 :: y285 :: y286 :: []).toArray, []⟩ w')) :
    Code.wp Try.prog (Code.loop (body3 2)) Q ⟨((.slice a0 n c0) :: (.slice a1 n c1) :: y2 :: y3 :: y4 :: (.int .i64 n) :: y6 :: y7 :: y8 :: (.slice (some ⟨PD, 0, none⟩) n n) :: y10 :: (.int .i64 0) :: y12 :: y13 :: y14 :: y15 :: y16 :: y17 :: y18 :: y19 :: y20 :: y21 :: y22 :: y23 :: y24 :: y25 :: y26 :: y27 :: y28 :: y29 :: y30 :: y31 :: y32 :: y33 :: y34 :: y35 :: y36 :: y37 :: y38 :: y39 :: y40 :: y41 :: y42 :: y43 :: y44 :: y45 :: y46 :: y47 :: y48 :: y49 :: y50 :: y51 :: y52 :: y53 :: y54 :: y55 :: y56 :: y57 :: y58 :: y59 :: y60 :: y61 :: y62 :: y63 :: y64 :: y65 :: y66 :: y67 :: y68 :: y69 :: y70 :: y71 :: y72 :: y73 :: y74 :: y75 :: y76 :: y77 :: y78 :: y79 :: y80 :: y81 :: y82 :: y83 :: y84 :: y85 :: y86 :: y87 :: y88 :: y89 :: y90 :: y91 :: y92 :: y93 :: y94 :: y95 :: y96 :: y97 :: y98 :: y99 :: y100 :: y101 :: y102 :: y103 :: y104 :: y105 :: y106 :: y107 :: y108 :: y109 :: y110 :: y111 :: y112 :: y113 :: y114 :: y115 :: y116 :: y117 :: y118 :: y119 :: y120 :: y121 :: y122 :: y123 :: y124 :: y125 :: y126 :: y127 :: y128 :: y129 :: y130 :: y131 :: y132 :: y133 :: y134 :: y135 :: y136 :: y137 :: y138 :: y139 :: y140 :: y141 :: y142 :: y143 :: y144 :: y145 :: y146 :: y147 :: y148 :: y149 :: y150 :: y151 :: y152 :: y153 :: y154 :: y155 :: y156 :: y157 :: y158 :: y159 :: y160 :: y161 :: y162 :: y163 :: y164 :: y165 :: y166 :: y167 :: y168 :: y169 :: y170 :: y171 :: y172 :: y173 :: y174 :: y175 :: y176 :: y177 :: y178 :: y179 :: y180 :: y181 :: y182 :: y183 :: y184 :: y185 :: y186 :: y187 :: y188 :: y189 :: y190 :: y191 :: y192 :: y193 :: y194 :: y195 :: y196 :: y197 :: y198 :: y199 :: y200 :: y201 :: y202 :: y203 :: y204 :: y205 :: y206 :: y207 :: y208 :: y209 :: y210 :: y211 :: y212 :: y213 :: y214 :: y215 :: y216 :: y217 :: y218 :: y219 :: y220 :: y221 :: y222 :: y223 :: y224 :: y225 :: y226 :: y227 :: y228 :: y229 :: y230 :: y231 :: y232 :: y233 :: y234 :: y235 :: y236 :: y237 :: y238 :: y239 :: y240 :: y241 :: y242 :: y243 :: y244 :: y245 :: y246 :: y247 :: y248 :: y249 :: y250 :: y251 :: y252 :: y253 :: y254 :: y255 :: y256 :: y257 :: y258 :: y259 :: y260 :: y261 :: y262 :: y263 :: y264 :: y265 :: y266 :: y267 :: y268 :: y269 :: y270 :: y271 :: y272 :: y273 :: y274 :: y275 :: y276 :: y277 :: y278 :: y279 :: y280 :: y281 :: y282 :: y283 :: y284 :: y285 :: y286 :: []).toArray, []⟩ w1 := by
  conv => arg 2; arg 1; whnf
  have HT := Lib.hid hT
  have HD := Lib.hid hD
  have HML := Lib.hid hml
  have HR := Lib.hid hR
  have hPD := hR.lt
  clear hT hD hml hR
  go_loopw [11] (fun zi wr => ∃ i : Nat, zi = .int .i64 i ∧ (i : Int) ≤ n ∧ Hid (Below w.heap.size w wr)) (fun zi _ => n - (intOf zi).toNat)
  case atStart => exact ⟨0, rfl, by omega, hB⟩
  case round =>
    obtain ⟨i, rfl, hi, H⟩ := hrel
    clear hB
    by_cases hlt : i < n
    · have b0 : (i : Int) < n := by omega
      obtain ⟨db, dq, rfl, hdb, hd⟩ := HD.out.cells (by omega)
      obtain ⟨d0, d1, d2, d3⟩ := hd i hlt
      have hdbr : db < wr.heap.size := Nat.lt_of_lt_of_le hdb H.out.size
      rw [← H.out.cell (p := ⟨db, dq + i * 4, none⟩) hdb] at d0
      rw [← H.out.cell (p := ⟨db, dq + i * 4 + 1, none⟩) hdb] at d1
      rw [← H.out.cell (p := ⟨db, dq + i * 4 + 2, none⟩) hdb] at d2
      rw [← H.out.cell (p := ⟨db, dq + i * 4 + 3, none⟩) hdb] at d3
      obtain ⟨p0, p1, p2, p3⟩ := pd_cells (HR.out.of_block (H.out.block _ hPD)) hlt
      clear hd
      by_cases t1 : ac i = delS
      · have kk : ((ac i).toList == [100, 101, 108, 101, 116, 101]) = true := by rw [t1]; decide +kernel
        have HT1 := Lib.hid t1
        clear t1
        go_wp2
        refine law_loop4 w wr n c0 c1 i a0 _ nm dg ac im mv ml mf ru un _ HT.out HD.out hn HML.out hlt H.out ?_
        refine Lib.hid ?_
        intros
        rename_i w2 hB2
        have HBF := fun q => Lib.hid (Below.drewN hB2 q)
        obtain ⟨e0, e1, e2, e3⟩ := (by
          obtain ⟨db', dq', e, _, hd⟩ := HD.out.cells (by omega)
          cases e
          exact hd i hlt : w.cell? ⟨db, dq + i * 4, none⟩ = some (.string (ac i)) ∧ w.cell? ⟨db, dq + i * 4 + 1, none⟩ = some (.int .i64 (ru i)) ∧ w.cell? ⟨db, dq + i * 4 + 2, none⟩ = some (.string (im i)) ∧ w.cell? ⟨db, dq + i * 4 + 3, none⟩ = some (.bool (un i)))
        rw [← hB2.cell (p := ⟨db, dq + i * 4, none⟩) hdb] at e0
        rw [← hB2.cell (p := ⟨db, dq + i * 4 + 1, none⟩) hdb] at e1
        rw [← hB2.cell (p := ⟨db, dq + i * 4 + 2, none⟩) hdb] at e2
        rw [← hB2.cell (p := ⟨db, dq + i * 4 + 3, none⟩) hdb] at e3
        clear p0 p1 p2 p3 d0 d1 d2 d3
        obtain ⟨p0, p1, p2, p3⟩ := pd_cells (HR.out.of_block (hB2.block _ hPD)) hlt
        clear hB2
        cases hV : bst nm dg ac ml mf n (dg i) with
        | none =>
          have a1 : acE (bst nm dg ac ml mf n) dg ac n i = ac i := by simp [acE, hV]
          have a2 : imE (bst nm dg ac ml mf n) dg ac im n i = im i := by simp [imE, hV]
          rw [a1] at p0
          rw [a2] at p2
          have o1 : (none : Option ByteArray).isSome = false := rfl
          rw [o1]
          clear a1 a2 hV o1
          go_wp2
          go_quiet (fail)
          go_wp2
          go_roundw
          case rel => exact ⟨i + 1, by go_num, by omega, HBF _⟩
          case measure => simp [intOf]; omega
        | some b =>
          have a1 : acE (bst nm dg ac ml mf n) dg ac n i = spareS := by simp [acE, hV, HT1.out, hlt]
          have a2 : imE (bst nm dg ac ml mf n) dg ac im n i = b := by simp [imE, hV, HT1.out, hlt]
          rw [a1] at p0
          rw [a2] at p2
          unfold spareS at p0
          have o1 : (some b : Option ByteArray).isSome = true := rfl
          have o2 : (some b : Option ByteArray).getD { data := #[] } = b := rfl
          rw [o1, o2]
          clear a1 a2 hV o1 o2
          go_wp2
          go_quiet (fail)
          go_wp2
          go_roundw
          case rel => exact ⟨i + 1, by go_num, by omega, HBF _⟩
          case measure => simp [intOf]; omega
      · have kk : ((ac i).toList == [100, 101, 108, 101, 116, 101]) = false := by rw [← delS_list]; exact beq_false t1
        have a1 : acE (bst nm dg ac ml mf n) dg ac n i = ac i := by simp [acE, t1]
        have a2 : imE (bst nm dg ac ml mf n) dg ac im n i = im i := by simp [imE, t1]
        rw [a1] at p0
        rw [a2] at p2
        have HBF := fun q => Lib.hid (Below.drewN H.out q)
        clear a1 a2 t1
        go_wp2
        go_quiet (fail)
        go_wp2
        go_roundw
        case rel => exact ⟨i + 1, by go_num, by omega, HBF _⟩
        case measure => simp [intOf]; omega
    · have e0 : i = n := by omega
      subst e0
      go_wp2
      exact hexit.out _ H.out

end Go.Proofs.Qxb6623375a
