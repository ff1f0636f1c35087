import Derived.Test.Qxb6623375aA4
namespace Go.Proofs.Qxb6623375a
open Go.RowKit

/-- the bodies of all loops, in the text's order -/
def loopsOf : Code → List Code
  | .loop c => c :: loopsOf c
  | .seq a b => loopsOf a ++ loopsOf b
  | .block _ c => loopsOf c
  | .scope c => loopsOf c
  | .cond _ a b => loopsOf a ++ loopsOf b
  | _ => []
noncomputable def body6 (k : Nat) : Code := ((Try.f6.body.map loopsOf).getD []).getD k .skip
noncomputable def body3 (k : Nat) : Code := ((Try.f3.body.map loopsOf).getD []).getD k .skip

set_option maxRecDepth 1000000 in
set_option maxHeartbeats 4000000 in
theorem spare_loop2 {y0 y1 y2 y3 y5 y7 y8 y9 y10 y11 y12 y13 y14 y15 y16 y17 y18 y19 y20 y21 y22 y23 y24 y25 y26 y27 y28 y29 y30 y31 y32 y33 y37 y38 y39 y40 y41 y42 y43 y44 y45 y46 y47 y48 y49 y50 y51 y52 y53 y54 y55 y56 y57 y58 y59 y60 y61 y62 y63 y64 y65 y66 y67 y68 y69 y70 y71 y72 y73 y74 y75 y76 y77 y78 y79 y80 y81 y82 y83 y84 y85 y86 y87 y88 y89 y90 y91 y92 : Value} (w : World) (bm B1 g L cap n0 : Nat) (V : ByteArray → Option ByteArray) (a d : ByteArray) (f : Nat → ByteArray) (Q : Exit → Act → World → Prop)
    (hM : MapIs w bm n0 V) (hB1 : w.cell? ⟨B1, 0, none⟩ = some (.string a)) (hg : ∀ k, k < L → w.cell? ⟨g, k, none⟩ = some (.string (dgl d f k))) (hB1lt : B1 < w.heap.size) (hglt : g < w.heap.size) (hB1b : B1 ≠ bm) (hgb : g ≠ bm)
    (hL : (L : Int) ≤ 1048577) (hn0 : n0 ≤ 300000000) (ha : a.size ≤ 1048576) (hd : ∀ k, k < L → (dgl d f k).size ≤ 1048576)
    (hexit : Hid (∀ {u8 u9 u10 u36 u37 u38 u39 u40 u41 u42 u43 u44 u45 u46 u47 u48 u49 u50 u51 u52 u53 u54 u55 u56 u57 u58 : Value} w', w.grownBy w' (some bm) → MapIs w' bm (n0 + L) (mid V a d f L) → Q (.exit 2) ⟨(y0 :: y1 :: y2 :: y3 :: (.map (some bm)) :: y5 :: (.pointer (some ⟨B1, 0, none⟩)) :: y7 :: u8 :: u9 :: u10 :: y11 :: y12 :: y13 :: y14 :: y15 :: y16 :: y17 :: y18 :: y19 :: y20 :: y21 :: y22 :: y23 :: y24 :: y25 :: y26 :: y27 :: y28 :: y29 :: y30 :: y31 :: y32 :: y33 :: (.slice (some ⟨g, 0, none⟩) L cap) :: (.int .i64 L) :: u36 :: u37 :: u38 :: u39 :: u40 :: u41 :: u42 :: u43 :: u44 :: u45 :: u46 :: u47 :: u48 :: u49 :: u50 :: u51 :: u52 :: u53 :: u54 :: u55 :: u56 :: u57 :: u58 :: y59 :: y60 :: y61 :: y62 :: y63 :: y64 :: y65 :: y66 :: y67 :: y68 :: y69 :: y70 :: y71 :: y72 :: y73 :: y74 :: y75 :: y76 :: y77 :: y78 :: y79 :: y80 :: y81 :: y82 :: y83 :: y84 :: y85 :: y86 :: y87 :: y88 :: y89 :: y90 :: y91 :: y92 :: []).toArray, []⟩ w')) :
    Code.wp Try.prog (Code.loop (body6 1)) Q ⟨(y0 :: y1 :: y2 :: y3 :: (.map (some bm)) :: y5 :: (.pointer (some ⟨B1, 0, none⟩)) :: y7 :: y8 :: y9 :: y10 :: y11 :: y12 :: y13 :: y14 :: y15 :: y16 :: y17 :: y18 :: y19 :: y20 :: y21 :: y22 :: y23 :: y24 :: y25 :: y26 :: y27 :: y28 :: y29 :: y30 :: y31 :: y32 :: y33 :: (.slice (some ⟨g, 0, none⟩) L cap) :: (.int .i64 L) :: (.int .i64 0) :: y37 :: y38 :: y39 :: y40 :: y41 :: y42 :: y43 :: y44 :: y45 :: y46 :: y47 :: y48 :: y49 :: y50 :: y51 :: y52 :: y53 :: y54 :: y55 :: y56 :: y57 :: y58 :: y59 :: y60 :: y61 :: y62 :: y63 :: y64 :: y65 :: y66 :: y67 :: y68 :: y69 :: y70 :: y71 :: y72 :: y73 :: y74 :: y75 :: y76 :: y77 :: y78 :: y79 :: y80 :: y81 :: y82 :: y83 :: y84 :: y85 :: y86 :: y87 :: y88 :: y89 :: y90 :: y91 :: y92 :: []).toArray, []⟩ w := by
  conv => arg 2; arg 1; whnf
  have HG := Lib.hid hg
  have HD := Lib.hid hd
  have HB := Lib.hid hB1
  clear hg hd hB1
  go_loopw [36] (fun zk wr => ∃ k : Nat, zk = .int .i64 k ∧ (k : Int) ≤ L ∧ Hid (w.grownBy wr (some bm) ∧ MapIs wr bm (n0 + k) (mid V a d f k))) (fun zk _ => L - (intOf zk).toNat)
  case atStart => exact ⟨0, rfl, by omega, World.grownBy.refl _ _, hM.congr (fun x => (mid_zero V a d f x).symm)⟩
  case round =>
    obtain ⟨k, rfl, hk, H⟩ := hrel
    clear hM
    by_cases hlt : k < L
    · have b0 : (k : Int) < L := by omega
      have g1 : wr.cell? ⟨g, k, none⟩ = some (.string (dgl d f k)) := by rw [H.out.1.cell_far ⟨g, k, none⟩ hglt (by simpa using hgb)]; exact HG.out k hlt
      have g2 : wr.cell? ⟨B1, 0, none⟩ = some (.string a) := by rw [H.out.1.cell_far ⟨B1, 0, none⟩ hB1lt (by simpa using hB1b)]; exact HB.out
      have hsz := HD.out k hlt
      cases hV : mid V a d f k (dgl d f k) with
      | none =>
        obtain ⟨v, hlook⟩ := look_none H.out.2 (dgl d f k) (by unfold maxLen; omega) hV
        obtain ⟨w2, hst, hgrow, hM2⟩ := store_map H.out.2 (dgl d f k) a (by unfold maxLen; omega) (by unfold maxLen; omega) (by unfold maxLen; omega)
        have HM2 : Hid (w.grownBy w2 (some bm) ∧ MapIs w2 bm (n0 + (k + 1)) (mid V a d f (k + 1))) := ⟨H.out.1.trans hgrow, hM2.congr (mid_put (.inl hV))⟩
        obtain ⟨y, hy⟩ : ∃ y, y = dgl d f k := ⟨_, rfl⟩
        rw [← hy] at g1 hlook hst
        clear hV hM2 hgrow hy hsz
        go_wp2
        go_roundw
        case rel => exact ⟨k + 1, by go_num, by omega, HM2⟩
        case measure => simp [intOf]; omega
      | some b =>
        have hlook := look_some H.out.2 (dgl d f k) b (by unfold maxLen; omega) hV
        by_cases hl : less a b = true
        · obtain ⟨w2, hst, hgrow, hM2⟩ := store_map H.out.2 (dgl d f k) a (by unfold maxLen; omega) (by unfold maxLen; omega) (by unfold maxLen; omega)
          have HM2 : Hid (w.grownBy w2 (some bm) ∧ MapIs w2 bm (n0 + (k + 1)) (mid V a d f (k + 1))) := ⟨H.out.1.trans hgrow, hM2.congr (mid_put (.inr ⟨b, hV, hl⟩))⟩
          obtain ⟨y, hy⟩ : ∃ y, y = dgl d f k := ⟨_, rfl⟩
          rw [← hy] at g1 hlook hst
          have hl' : Op.bytesLess a.toList b.toList = true := hl
          clear hV hM2 hgrow hy hsz hl
          go_wp2
          go_roundw
          case rel => exact ⟨k + 1, by go_num, by omega, HM2⟩
          case measure => simp [intOf]; omega
        · have hl2 := Bool.eq_false_iff.2 hl
          have HM2 : Hid (w.grownBy wr (some bm) ∧ MapIs wr bm (n0 + (k + 1)) (mid V a d f (k + 1))) := ⟨H.out.1, (H.out.2.congr (mid_stay hV hl2)).mono (by omega)⟩
          obtain ⟨y, hy⟩ : ∃ y, y = dgl d f k := ⟨_, rfl⟩
          rw [← hy] at g1 hlook
          have hl' : Op.bytesLess a.toList b.toList = false := hl2
          clear hV hy hsz hl hl2
          go_wp2
          go_roundw
          case rel => exact ⟨k + 1, by go_num, by omega, HM2⟩
          case measure => simp [intOf]; omega
    · have e0 : k = L := by omega
      subst e0
      go_wp2
      exact hexit.out _ H.out.1 H.out.2

end Go.Proofs.Qxb6623375a
