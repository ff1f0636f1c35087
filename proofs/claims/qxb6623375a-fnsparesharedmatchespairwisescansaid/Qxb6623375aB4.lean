import Derived.Test.Qxb6623375aB2
import Derived.StillTailTactics
namespace Go.Proofs.Qxb6623375a
open Go.RowKit

set_option maxRecDepth 1000000 in
set_option maxHeartbeats 4000000 in
theorem law_loop4 {y2 y3 y4 y6 y7 y8 y9 y10 y12 y13 y17 y18 y19 y20 y21 y22 y23 y24 y25 y26 y27 y28 y29 y30 y31 y32 y33 y34 y35 y36 y37 y38 y39 y40 y41 y42 y43 y44 y45 y46 y47 y48 y49 y50 y51 y52 y53 y54 y55 y56 y57 y58 y59 y60 y61 y62 y63 y64 y65 y66 y67 y68 y69 y70 y71 y72 y73 y74 y75 y76 y77 y78 y79 y80 y81 y82 y83 y84 y85 y86 y87 y88 y89 y90 y91 y92 y93 y94 y95 y96 y97 y98 y99 y100 y101 y102 y103 y104 y105 y106 y107 y108 y109 y110 y111 y112 y113 y114 y115 y116 y117 y118 y119 y120 y121 y122 y123 y124 y125 y126 y127 y128 y129 y130 y131 y132 y133 y134 y135 y136 y137 y138 y139 y140 y141 y142 y143 y144 y145 y146 y147 y148 y149 y150 y151 y152 y153 y154 y155 y156 y157 y158 y159 y160 y161 y162 y163 y164 y165 y166 y167 y168 y169 y170 y171 y172 y173 y174 y175 y176 y177 y178 y179 y180 y181 y182 y183 y184 y185 y186 y187 y188 y189 y190 y191 y192 y193 y194 y195 y196 y197 y198 y199 y200 y201 y202 y203 y204 y205 y206 y207 y208 y209 y210 y211 y212 y213 y214 y215 y216 y217 y218 y219 y220 y221 y222 y223 y224 y225 y226 y227 y228 y229 y230 y231 y232 y233 y234 y235 y236 y237 y238 y239 y240 y241 y242 y243 y244 y245 y246 y247 y248 y249 y250 y251 y252 y253 y254 y255 y256 y257 y258 y259 y260 y261 y262 y263 y264 y265 y266 y267 y268 y269 y270 y271 y272 y273 y274 y275 y276 y277 y278 y279 y280 y281 y282 y283 y284 y285 y286 : Value} (w w1 : World) (n c0 c1 i : Nat) (a0 a1 : Option Addr) (nm dg ac im : Nat → ByteArray) (mv : Nat → Value) (ml : Nat → Nat) (mf : Nat → Nat → ByteArray) (ru : Nat → Int) (un : Nat → Bool) (Q : Exit → Act → World → Prop)
    (hT : TagsIn w a0 n nm dg mv ml mf) (hD : DecsIn w a1 n ac im ru un) (hn : (n : Int) ≤ 256) (hml : ∀ k, k < n → ml k ≤ 1048576) (hin : i < n) (hB : Below w.heap.size w w1)
    (hexit : Hid (∀ {u16 u138 u139 u140 u141 u142 u143 u144 u145 u146 u147 u148 u149 u150 u151 u152 u153 u154 u155 u156 u157 u158 u159 u160 u161 u162 u163 u164 u165 u166 u167 u168 u169 u170 u171 u172 u173 u174 u175 : Value} w', Below w.heap.size w w' → Q (.exit 6) ⟨((.slice a0 n c0) :: (.slice a1 n c1) :: y2 :: y3 :: y4 :: (.int .i64 n) :: y6 :: y7 :: y8 :: y9 :: y10 :: (.int .i64 i) :: y12 :: y13 :: (.bool (bst nm dg ac ml mf n (dg i)).isSome) :: (.string ((bst nm dg ac ml mf n (dg i)).getD { data := #[] })) :: u16 :: y17 :: y18 :: y19 :: y20 :: y21 :: y22 :: y23 :: y24 :: y25 :: y26 :: y27 :: y28 :: y29 :: y30 :: y31 :: y32 :: y33 :: y34 :: y35 :: y36 :: y37 :: y38 :: y39 :: y40 :: y41 :: y42 :: y43 :: y44 :: y45 :: y46 :: y47 :: y48 :: y49 :: y50 :: y51 :: y52 :: y53 :: y54 :: y55 :: y56 :: y57 :: y58 :: y59 :: y60 :: y61 :: y62 :: y63 :: y64 :: y65 :: y66 :: y67 :: y68 :: y69 :: y70 :: y71 :: y72 :: y73 :: y74 :: y75 :: y76 :: y77 :: y78 :: y79 :: y80 :: y81 :: y82 :: y83 :: y84 :: y85 :: y86 :: y87 :: y88 :: y89 :: y90 :: y91 :: y92 :: y93 :: y94 :: y95 :: y96 :: y97 :: y98 :: y99 :: y100 :: y101 :: y102 :: y103 :: y104 :: y105 :: y106 :: y107 :: y108 :: y109 :: y110 :: y111 :: y112 :: y113 :: y114 :: y115 :: y116 :: y117 :: y118 :: y119 :: y120 :: y121 :: y122 :: y123 :: y124 :: y125 :: y126 :: y127 :: y128 :: y129 :: y130 :: y131 :: y132 :: y133 :: y134 :: y135 :: y136 :: y137 :: u138 :: u139 :: u140 :: u141 :: u142 :: u143 :: u144 :: u145 :: u146 :: u147 :: u148 :: u149 :: u150 :: u151 :: u152 :: u153 :: u154 :: u155 :: u156 :: u157 :: u158 :: u159 :: u160 :: u161 :: u162 :: u163 :: u164 :: u165 :: u166 :: u167 :: u168 :: u169 :: u170 :: u171 :: u172 :: u173 :: u174 :: u175 :: y176 :: y177 :: y178 :: y179 :: y180 :: y181 :: y182 :: y183 :: y184 :: y185 :: y186 :: y187 :: y188 :: y189 :: y190 :: y191 :: y192 :: y193 :: y194 :: y195 :: y196 :: y197 :: y198 :: y199 :: y200 :: y201 :: y202 :: y203 :: y204 :: y205 :: y206 :: y207 :: y208 :: y209 :: y210 :: y211 :: y212 :: y213 :: y214 :: y215 :: y216 :: y217 :: y218 :: y219 :: y220 :: y221 :: y222 :: y223 :: y224 :: y225 :: y226 :: y227 :: y228 :: y229 :: y230 :: y231 :: y232 :: y233 :: y234 :: y235 :: y236 :: y237 :: y238 :: y239 :: y240 :: y241 :: y242 :: y243 :: y244 :: y245 :: y246 :: y247 :: y248 :: y249 :: y250 :: y251 :: y252 :: y253 :: y254 :: y255 :: y256 :: y257 :: y258 :: y259 :: y260 :: y261 :: y262 :: y263 :: y264 :: y265 :: y266 :: y267 :: y268 :: y269 :: y270 :: y271 :: y272 :: y273 :: y274 :: y275 :: y276 :: y277 :: y278 :: y279 :: y280 :: y281 :: y282 :: y283 :: y284 :: y285 :: y286 :: []).toArray, []⟩ w')) :
    Code.wp Try.prog (Code.loop (body3 3)) Q ⟨((.slice a0 n c0) :: (.slice a1 n c1) :: y2 :: y3 :: y4 :: (.int .i64 n) :: y6 :: y7 :: y8 :: y9 :: y10 :: (.int .i64 i) :: y12 :: y13 :: (.bool false) :: (.string { data := #[] }) :: (.int .i64 0) :: y17 :: y18 :: y19 :: y20 :: y21 :: y22 :: y23 :: y24 :: y25 :: y26 :: y27 :: y28 :: y29 :: y30 :: y31 :: y32 :: y33 :: y34 :: y35 :: y36 :: y37 :: y38 :: y39 :: y40 :: y41 :: y42 :: y43 :: y44 :: y45 :: y46 :: y47 :: y48 :: y49 :: y50 :: y51 :: y52 :: y53 :: y54 :: y55 :: y56 :: y57 :: y58 :: y59 :: y60 :: y61 :: y62 :: y63 :: y64 :: y65 :: y66 :: y67 :: y68 :: y69 :: y70 :: y71 :: y72 :: y73 :: y74 :: y75 :: y76 :: y77 :: y78 :: y79 :: y80 :: y81 :: y82 :: y83 :: y84 :: y85 :: y86 :: y87 :: y88 :: y89 :: y90 :: y91 :: y92 :: y93 :: y94 :: y95 :: y96 :: y97 :: y98 :: y99 :: y100 :: y101 :: y102 :: y103 :: y104 :: y105 :: y106 :: y107 :: y108 :: y109 :: y110 :: y111 :: y112 :: y113 :: y114 :: y115 :: y116 :: y117 :: y118 :: y119 :: y120 :: y121 :: y122 :: y123 :: y124 :: y125 :: y126 :: y127 :: y128 :: y129 :: y130 :: y131 :: y132 :: y133 :: y134 :: y135 :: y136 :: y137 :: y138 :: y139 :: y140 :: y141 :: y142 :: y143 :: y144 :: y145 :: y146 :: y147 :: y148 :: y149 :: y150 :: y151 :: y152 :: y153 :: y154 :: y155 :: y156 :: y157 :: y158 :: y159 :: y160 :: y161 :: y162 :: y163 :: y164 :: y165 :: y166 :: y167 :: y168 :: y169 :: y170 :: y171 :: y172 :: y173 :: y174 :: y175 :: y176 :: y177 :: y178 :: y179 :: y180 :: y181 :: y182 :: y183 :: y184 :: y185 :: y186 :: y187 :: y188 :: y189 :: y190 :: y191 :: y192 :: y193 :: y194 :: y195 :: y196 :: y197 :: y198 :: y199 :: y200 :: y201 :: y202 :: y203 :: y204 :: y205 :: y206 :: y207 :: y208 :: y209 :: y210 :: y211 :: y212 :: y213 :: y214 :: y215 :: y216 :: y217 :: y218 :: y219 :: y220 :: y221 :: y222 :: y223 :: y224 :: y225 :: y226 :: y227 :: y228 :: y229 :: y230 :: y231 :: y232 :: y233 :: y234 :: y235 :: y236 :: y237 :: y238 :: y239 :: y240 :: y241 :: y242 :: y243 :: y244 :: y245 :: y246 :: y247 :: y248 :: y249 :: y250 :: y251 :: y252 :: y253 :: y254 :: y255 :: y256 :: y257 :: y258 :: y259 :: y260 :: y261 :: y262 :: y263 :: y264 :: y265 :: y266 :: y267 :: y268 :: y269 :: y270 :: y271 :: y272 :: y273 :: y274 :: y275 :: y276 :: y277 :: y278 :: y279 :: y280 :: y281 :: y282 :: y283 :: y284 :: y285 :: y286 :: []).toArray, []⟩ w1 := by
  conv => arg 2; arg 1; whnf
  have HT := Lib.hid hT
  have HD := Lib.hid hD
  have HML := Lib.hid hml
  have hin' : (i : Int) < n := by omega
  clear hT hD hml
  go_loopw [14, 15, 16] (fun zf zb zj wr => ∃ j : Nat, zf = .bool (bst nm dg ac ml mf j (dg i)).isSome ∧ zb = .string ((bst nm dg ac ml mf j (dg i)).getD { data := #[] }) ∧ zj = .int .i64 j ∧ (j : Int) ≤ n ∧ Hid (Below w.heap.size w wr)) (fun _ _ zj _ => n - (intOf zj).toNat)
  case atStart => exact ⟨0, rfl, rfl, rfl, by omega, hB⟩
  case round =>
    obtain ⟨j, rfl, rfl, rfl, hj, H⟩ := hrel
    clear hB
    by_cases hlt : j < n
    · have b0 : (j : Int) < n := by omega
      obtain ⟨tb, to, rfl, htb, hc⟩ := HT.out.cells (by omega)
      obtain ⟨db, dq, rfl, hdb, hd⟩ := HD.out.cells (by omega)
      have d0 := (hd j hlt).1
      rw [← H.out.cell (p := ⟨db, dq + j * 4, none⟩) hdb] at d0
      by_cases t1 : ac j = keepS
      · have kk : ((ac j).toList == [107, 101, 101, 112]) = true := by rw [t1]; decide +kernel
        have HT1 := Lib.hid t1
        obtain ⟨g1, g2, g3⟩ := hc j hlt
        have g4 := (hc i hin).2.1
        rw [← H.out.cell (p := ⟨tb, to + j * 3, none⟩) htb] at g1
        rw [← H.out.cell (p := ⟨tb, to + j * 3 + 1, none⟩) htb] at g2
        rw [← H.out.cell (p := ⟨tb, to + j * 3 + 2, none⟩) htb] at g3
        rw [← H.out.cell (p := ⟨tb, to + i * 3 + 1, none⟩) htb] at g4
        obtain ⟨xa, xc, hx, hxc⟩ := ((HT.out.mans j hlt).strs.after H.out)
        rw [hx] at g3
        have HNE := Lib.hid (fun (wq : World) (hq : Below wr.heap.size wr wq) => needs_any wq (nm j) (dg j) (.slice xa (ml j) xc) (ml j) (mf j) (dg i) (Strs.after ⟨xa, xc, rfl, hxc⟩ hq) (by have := HML.out j hlt; omega))
        have htbr : tb < wr.heap.size := Nat.lt_of_lt_of_le htb H.out.size
        clear hc hd t1 hx hxc
        go_wp2
        go_still_tail 9, (show Try.prog.follows .mixedOrders = true by kernel_rfl)
        have hbq : Below wr.heap.size wr ({ heap := wr.heap, tape := wr.tape, drawn := wr.drawn + 1, os := wr.os, output := wr.output } : World) := ⟨rfl, rfl, rfl, Nat.le_refl _, fun _ _ => rfl⟩
        go_wp2_with (go_at_call 7; refine (HNE.out _ hbq).mono ?_; intro e w2 hw; obtain ⟨he, hb2⟩ := hw; subst he; refine Hid.out ?_)
        refine Lib.hid ?_
        have hB2 : Below wr.heap.size wr w2 := hbq.trans hb2
        have HB2 := Lib.hid (H.out.trans (hB2.mono H.out.size))
        rw [← hB2.cell (p := ⟨tb, to + j * 3, none⟩) htbr] at g1
        clear hbq hb2 hB2 d0 g2 g3 g4
        have HKP := Lib.hid (bst_keep (nm := nm) (dg := dg) (ml := ml) (mf := mf) HT1.out (dg i))
        cases hnd : needs (dg j) (ml j) (mf j) (dg i) with
        | false =>
          have HE : Hid (bst nm dg ac ml mf (j + 1) (dg i) = bst nm dg ac ml mf j (dg i)) := by
            refine Lib.hid ?_
            rw [HKP.out, hnd]; rfl
          clear hnd HKP
          go_wp2
          go_roundw
          case rel => exact ⟨j + 1, by rw [HE.out], by rw [HE.out], by go_num, by omega, HB2⟩
          case measure => simp [intOf]; omega
        | true =>
          cases hO : bst nm dg ac ml mf j (dg i) with
          | none =>
            have HE : Hid (bst nm dg ac ml mf (j + 1) (dg i) = some (nm j)) := by
              refine Lib.hid ?_
              rw [HKP.out, hnd, hO]; rfl
            have o1 : (none : Option ByteArray).isSome = false := rfl
            rw [o1]
            clear hnd HKP hO o1
            go_wp2
            go_roundw
            case rel => exact ⟨j + 1, by rw [HE.out]; rfl, by rw [HE.out]; rfl, by go_num, by omega, HB2⟩
            case measure => simp [intOf]; omega
          | some b =>
            have o1 : (some b : Option ByteArray).isSome = true := rfl
            have o2 : (some b : Option ByteArray).getD { data := #[] } = b := rfl
            rw [o1, o2]
            cases hl : less (nm j) b with
            | true =>
              have HE : Hid (bst nm dg ac ml mf (j + 1) (dg i) = some (nm j)) := by
                refine Lib.hid ?_
                rw [HKP.out, hnd, hO]; simp [up1, hl]
              have hl' : Op.bytesLess (nm j).toList b.toList = true := hl
              clear hnd HKP hO o1 o2 hl
              go_wp2
              go_roundw
              case rel => exact ⟨j + 1, by rw [HE.out]; rfl, by rw [HE.out]; rfl, by go_num, by omega, HB2⟩
              case measure => simp [intOf]; omega
            | false =>
              have HE : Hid (bst nm dg ac ml mf (j + 1) (dg i) = some b) := by
                refine Lib.hid ?_
                rw [HKP.out, hnd, hO]; simp [up1, hl]
              have hl' : Op.bytesLess (nm j).toList b.toList = false := hl
              clear hnd HKP hO o1 o2 hl
              go_wp2
              go_roundw
              case rel => exact ⟨j + 1, by rw [HE.out]; rfl, by rw [HE.out]; rfl, by go_num, by omega, HB2⟩
              case measure => simp [intOf]; omega
      · have kk : ((ac j).toList == [107, 101, 101, 112]) = false := by rw [← keepS_list]; exact beq_false t1
        have HE := Lib.hid (bst_skip (nm := nm) (dg := dg) (ml := ml) (mf := mf) t1 (dg i))
        clear hc hd t1
        go_wp2
        go_roundw
        case rel => exact ⟨j + 1, by rw [HE.out], by rw [HE.out], by go_num, by omega, H⟩
        case measure => simp [intOf]; omega
    · have e0 : j = n := by omega
      subst e0
      go_wp2
      exact hexit.out _ H.out

end Go.Proofs.Qxb6623375a
