import Derived.Test.Qxb6619248aDoorD8
namespace Go.Proofs.Qxb6619248aDoor
open Go.RowKit
open Pl
open Go.Maps

/-- from the two roads to the last part -/
theorem fin3_of {w4 w5 : World} {H : List Nm} {names : Nat → Nm} {vals : Nat → Int} {n : Nat} {W : List En} {want : Option Addr} (hn : n ≤ 4096)
    (hs : H.Pairwise lt) (hm : ∀ x, x ∈ H ↔ lastV names vals n x ≠ 0) (hHl : H.length ≤ n) (hp : W.Perm (cand names vals n n)) (hw : W.Pairwise le) (hwant : WantAt w5 w4.heap.size want W)
    (hsz : ∀ k, k < n → (names k).size ≤ 1048576) (hwf : ∀ k, k < n → (Lit.int .i64 (vals k)).wf = true) :
    H.length = W.length ∧ Fin3 w5 w4.heap.size w5.heap.size want W.length (fun k => H.getD k ByteArray.empty) (fun k => lastV names vals n (H.getD k ByteArray.empty)) := by
  obtain ⟨hH, hall⟩ := held_is_want names vals hs hm hp hw
  have hlen : H.length = W.length := by rw [hH]; simp
  have hget : ∀ k, (hk : k < W.length) → H.getD k ByteArray.empty = W[k].1 := fun k hk => by rw [hH]; simp [hk]
  have hval : ∀ k, (hk : k < W.length) → lastV names vals n (H.getD k ByteArray.empty) = W[k].2 := fun k hk => by rw [hget k hk]; exact (hall _ (List.getElem_mem hk)).1.symm
  have hmem : ∀ k, k < W.length → H.getD k ByteArray.empty ∈ H := fun k hk => by
    have hk' : k < H.length := by omega
    simp [hk']
  refine ⟨hlen, fun h0 => ?_, fun k hk => ?_, fun k hk => ?_, by omega⟩
  · obtain ⟨g, e, h1, h2, hc⟩ := hwant h0
    refine ⟨g, e, h1, h2, fun k hk => ?_⟩
    have := hc k W[k] (List.getElem?_eq_getElem hk)
    simp only [hget k hk, (hall _ (List.getElem_mem hk)).1.symm]
    exact this
  · obtain ⟨i, h1, h2, _⟩ := held_from hm (hmem k hk)
    simp only [← h2]; exact hsz i h1
  · obtain ⟨i, h1, _, h3⟩ := held_from hm (hmem k hk)
    have := hwf i h1
    simp only [h3]
    simp [Lit.wf, IntKind.min, IntKind.max, IntKind.bits, IntKind.signed] at this
    omega

set_option maxRecDepth 100000 in
set_option maxHeartbeats 4000000 in
theorem after_law (w : World) (a1 a2 a3 : Option Addr) (l1 c1 l2 c2 c3 : Nat) (l : List UInt8) (names : Nat → Nm) (vals : Nat → Int) (h1 : IsStrs w a1 l1 names) (h2 : IsInts w a2 l2 vals) (hd : IsBytes w a3 l) (hdl : l.length ≤ maxLen)
    (ht : Lib.TabBelow Tryd.prog w.heap.size w "internal/strconv.uint64pow10" .u64 Lib.pow10Tab) :
    Calls Tryd.prog 5 #[.slice a1 l1 c1, .slice a2 l2 c2, .slice a3 l.length c3] w fun e w' => e = .returned (.bool true) ∧ Below w.heap.size w w' := by
  obtain ⟨d, hd0⟩ : ∃ d, d = l.length := ⟨_, rfl⟩
  have HD := Lib.hid hd0
  rw [← hd0] at hdl ⊢
  clear hd0
  have HB := bytes_any w a1 a2 a3 l1 c1 l2 c2 d c3 names h1 h2.1 hdl
  have hl1 := h1.1
  have hl2 := h2.1
  unfold maxLen at hl1 hl2 hdl
  have H1 : Hid (IsStrs w a1 l1 names) := h1
  have H2 : Hid (IsInts w a2 l2 vals) := h2
  have HY : Hid (IsBytes w a3 l) := hd
  have HT := Lib.hid ht
  have H3 : Hid (∀ (k : Nat), k < l1 → ∃ b o, a1 = some ⟨b, o, none⟩ ∧ w.cell? ⟨b, o + k, none⟩ = some (.string (names k)) ∧ (names k).size ≤ maxLen) := fun k hk => by
    obtain ⟨b, o, e, _, hc⟩ := h1.2 (by omega)
    exact ⟨b, o, e, (hc k hk).1, (hc k hk).2⟩
  clear h1 h2 hd ht
  go_enter Tryd.func5, Tryd.ntmps5
  go_wp2_with fail
  refine HB.mono ?_
  rintro e w' ⟨rfl, rfl | ⟨rfl, HS⟩⟩
  · clear HB
    go_wp2
    go_ret
    exact ⟨rfl, Below.refl _ _⟩
  clear HB
  by_cases t1' : (4096 : Int) < l1
  · go_wp2
    go_ret
    exact ⟨rfl, Below.refl _ _⟩
  by_cases t2' : (4096 : Int) < l2
  · go_wp2
    go_ret
    exact ⟨rfl, Below.refl _ _⟩
  by_cases t3' : (1048576 : Int) < d
  · go_wp2
    go_ret
    exact ⟨rfl, Below.refl _ _⟩
  by_cases t4' : (1048576 : Int) < (d : Int) + 8 * l2
  · go_wp2
    go_ret
    exact ⟨rfl, Below.refl _ _⟩
  go_wp2
  go_loopw [7, 8] (fun z i wr => ∃ (c s : Nat), (c : Int) ≤ l1 ∧ (s : Int) ≤ 1048576 ∧ i = .int .i64 c ∧ z = .int .i64 s ∧ w' = wr) (fun _ i _ => l1 - (intOf i).toNat)
  case atStart => exact ⟨0, d + 8 * l2, by omega, by omega, rfl, by go_num, rfl⟩
  case round =>
    obtain ⟨c, s, hcl, hs, rfl, rfl, rfl⟩ := hrel
    by_cases hlt : c < l1
    · obtain ⟨b, o, rfl, g1, g2⟩ := H3.out c hlt
      have g3 := HS.out c hlt
      clear g2
      have b2 : (c : Int) < l1 := by omega
      by_cases t3 : (1048576 : Int) < (s : Int) + (names c).size
      · go_wp2
        go_ret
        exact ⟨rfl, Below.refl _ _⟩
      · go_wp2
        go_roundw
        case rel => exact ⟨c + 1, s + (names c).size, by omega, by omega, by go_num, by go_num, trivial⟩
        case measure => simp [intOf]; omega
    · have b2 : ¬ (c : Int) < l1 := by omega
      have HZ : Hid (l.length ≤ 1048576) := by have := HD.out; show _ ≤ _; omega
      go_wp2_with (go_at_call 6; refine (clone_d w' a3 c3 d l HD.out HY.out HZ.out).mono ?_; rintro e w1 ⟨v1, rfl, hb1⟩; refine Hid.out ?_)
      refine Lib.hid ?_
      have HB1 := Lib.hid hb1
      have HL1 : Hid (Below w'.heap.size w' w1) := hb1.keeps.below
      clear hb1
      go_wp2_with (go_at_call 6; refine (clone_d w1 a3 c3 d l HD.out (HY.out.after HL1.out) HZ.out).mono ?_; rintro e w2 ⟨v2, rfl, hb2⟩; refine Hid.out ?_)
      refine Lib.hid ?_
      have HB2 := Lib.hid hb2
      have HL2 : Hid (Below w'.heap.size w' w2) := below_to HL1.out HL1.out.size hb2.keeps.below
      clear hb2
      go_wp2_with (go_at_call 15; refine (min_any l1 l2 _).mono ?_; rintro e w2 ⟨rfl, rfl⟩; refine Hid.out ?_)
      refine Lib.hid ?_
      have hcame : Hid (Came w' a1 a2 l1 l2 (min l1 l2) names vals) := came_of H1.out H2.out (by omega) (by omega) (by omega)
      have HSn : Hid (∀ k, k < min l1 l2 → (names k).size ≤ 1048576) := fun k hk => HS.out k (by omega)
      clear H1 H2 H3 HS b2 hcl hs
      generalize min l1 l2 = n at *
      go_wp2_with (go_at_call 16; refine (run_any w2 a1 a2 l1 l2 c1 c2 n names vals (hcame.out.below HL2.out)).mono ?_; rintro e w3 ⟨rfl, hB3, H, hacc, hHl⟩; refine Hid.out ?_)
      refine Lib.hid ?_
      have HL3 : Hid (Below w'.heap.size w' w3) := below_to HL2.out HL2.out.size hB3
      have HB3 := Lib.hid ((HB2.out.after hB3).since)
      have HL13 : Hid (Below w1.heap.size w1 w3) := (HB2.out.after hB3).keeps.below
      have HA := Lib.hid hacc
      have HHl := Lib.hid hHl
      clear hacc hB3 hHl
      obtain ⟨m, base, cap, hR⟩ := reads_acc w1.heap.size HA.out
        (fun x hx => by obtain ⟨i, h1, h2, _⟩ := held_from HA.out.mem hx; rw [← h2]; exact hcame.out.sz i h1)
        (fun x hx => by
          obtain ⟨i, h1, _, h3⟩ := held_from HA.out.mem hx
          have := hcame.out.wf i h1
          rw [h3]
          simp [Lit.wf, IntKind.min, IntKind.max, IntKind.bits, IntKind.signed] at this
          omega)
      have HR := Lib.hid hR
      clear hR
      obtain ⟨E, hE⟩ : ∃ E : Nat → List UInt8, E = fun k => entry (H.getD k ByteArray.empty) (lastV names vals n (H.getD k ByteArray.empty)) := ⟨_, rfl⟩
      have HE := Lib.hid hE
      have HHn : Hid (H.length ≤ n ∧ n ≤ 4096) := ⟨HHl.out, hcame.out.hn⟩
      have HEl : Hid (∀ k, k < H.length → (E k).length ≤ 1048599) := fun k hk => by
        have hr := HR.out.v0 k hk
        have hmem : H.getD k ByteArray.empty ∈ H := by simp [hk]
        obtain ⟨i, h1, h2, _⟩ := held_from HA.out.mem hmem
        have hs := HSn.out i h1
        rw [h2] at hs
        have := entry_len (H.getD k ByteArray.empty) (lastV names vals n (H.getD k ByteArray.empty)) hr.1 hr.2
        rw [hE]
        show (entry _ _).length ≤ _
        omega
      clear hE
      go_wp2_with (go_at_call 8; refine (line_any HR.out (by have := HHn.out; omega) HB3.out (by have := HZ.out; omega) (fun k hk => by
        have h1 := ents_flat E 1048599 k (fun j hj => HEl.out j (by omega))
        have h2 := HHn.out
        have h3 : k * 1048599 ≤ 4096 * 1048599 := Nat.mul_le_mul_right _ (by omega)
        rw [HE.out] at h1
        omega) (tab_on HT.out HL3.out HL1.out.size)).mono ?_; rintro e w4 ⟨v3, rfl, hb4⟩; refine Hid.out ?_)
      refine Lib.hid ?_
      have HB4 : Hid (Buf w1.heap.size w3 v3 (l ++ lineOf E H.length) w4) := by rw [HE.out]; exact hb4
      have HL14 : Hid (Below w1.heap.size w1 w4) := HL13.out.trans hb4.keeps.below
      have HL4 : Hid (Below w'.heap.size w' w4) := below_to HL1.out HL1.out.size HL14.out
      clear hb4
      go_wp2_with (go_at_call 17; refine (last_any w4 a1 a2 l1 l2 c1 c2 n names vals (hcame.out.below HL4.out)).mono ?_; rintro e w5 ⟨want, wcap, W, rfl, hB5, hp, hw, hwant⟩; refine Hid.out ?_)
      refine Lib.hid ?_
      obtain ⟨hlen, hfin⟩ := fin3_of hcame.out.hn HA.out.sorted HA.out.mem HHl.out hp hw hwant HSn.out hcame.out.wf
      have HF := Lib.hid hfin
      have HL15 : Hid (Below w1.heap.size w1 w5) := HL14.out.trans (hB5.mono HL14.out.size)
      have HB5 : Hid (Buf w1.heap.size w3 v3 (l ++ lineOf E W.length) w5) := by rw [← hlen]; exact HB4.out.after hB5
      have HEl' : Hid (∀ k, k < W.length → (E k).length ≤ 1048599) := by rw [← hlen]; exact HEl.out
      have H14 : Hid (w1.heap.size ≤ w4.heap.size) := HL14.out.size
      clear hlen hfin hp hw hwant hB5 HB4 HEl HR HHn
      generalize W.length = M at *
      obtain ⟨X, hX⟩ : ∃ X : Nat → Nm, X = fun k => H.getD k ByteArray.empty := ⟨_, rfl⟩
      obtain ⟨Y, hY⟩ : ∃ Y : Nat → Int, Y = fun k => lastV names vals n (H.getD k ByteArray.empty) := ⟨_, rfl⟩
      rw [← hX, ← hY] at HF
      have HE2 : Hid (E = fun k => entry (X k) (Y k)) := by rw [hX, hY]; exact HE.out
      clear HE hX hY
      have HE := HE2
      clear HE2
      have HXE : Hid (∀ k, E k = entry (X k) (Y k)) := fun k => by rw [HE.out]
      clear HE HA HHl hcame HSn
      have HM : Hid (M ≤ 4096) := HF.out.hm
      have hMi : (M : Int) ≤ 4096 := by have := HM.out; omega
      have HBS : Hid (BufS w1.heap.size w5.heap.size w'.heap.size w5 v1 l w5) :=
        ⟨(HB1.out.after HL15.out).since, fun g hg => .inl (HB1.out.own.lt g hg).2, Nat.le_refl _, fun _ _ _ => rfl⟩
      have HEnt : Hid (∀ k, k ≤ M → (ents E k).length ≤ 8589934592) := fun k hk => by
        have h1 := ents_flat E 1048599 k (fun j hj => HEl'.out j (by omega))
        have h2 := HM.out
        have h3 : k * 1048599 ≤ 4096 * 1048599 := Nat.mul_le_mul_right _ (by omega)
        omega
      go_wp2_with (at_builtin; refine wpList_sep_text rfl _ _ rfl rfl HBS.out ⟨#[66, 65, 76, 65, 78, 67, 69, 83]⟩ rfl (show l.length + 8 ≤ _ by have := HZ.out; omega) ?_; intro v4 w6 hb6; refine Hid.out ?_)
      refine Lib.hid ?_
      have HB6 : Hid (BufS w1.heap.size w5.heap.size w'.heap.size w5 v4 (l ++ headB) w6) := hb6
      clear hb6 HBS
      go_wp2
      go_loopw [9, 14] (fun z i wx => ∃ (k : Nat), i = .int .i64 k ∧ (k : Int) ≤ M ∧ Hid (BufS w1.heap.size w5.heap.size w'.heap.size w5 z (l ++ headB ++ ents E k) wx)) (fun _ i _ => M - (intOf i).toNat)
      case atStart => exact ⟨0, rfl, by omega, (by simpa [ents] using HB6.out : BufS w1.heap.size w5.heap.size w'.heap.size w5 v4 (l ++ headB ++ ents E 0) w6)⟩
      case round =>
        obtain ⟨k, rfl, hk, HB⟩ := hrel
        by_cases hlt2 : k < M
        · obtain ⟨g, rfl, hg1, hg2, hcell⟩ := HF.out.cells (by omega)
          obtain ⟨k1, k2⟩ := hcell k hlt2
          have bM : (k : Int) < M := by omega
          have hr := HF.out.rng k hlt2
          have hxs := HF.out.sz k hlt2
          clear hcell
          have KC1 : Hid (∀ wx : World, wx.heap[g]? = w5.heap[g]? → wx.cell? ⟨g, k * 2, none⟩ = some (.string (X k))) := fun wx e => by
            unfold World.cell? at k1 ⊢; rw [e]; exact k1
          have KC2 : Hid (∀ wx : World, wx.heap[g]? = w5.heap[g]? → wx.cell? ⟨g, k * 2 + 1, none⟩ = some (.int .i64 (Y k))) := fun wx e => by
            unfold World.cell? at k2 ⊢; rw [e]; exact k2
          have HG : Hid (w1.heap.size ≤ g ∧ g < w5.heap.size) := ⟨Nat.le_trans H14.out hg1, hg2⟩
          clear k1 k2 hg1 hg2
          obtain ⟨L, hL⟩ : ∃ L, L = l ++ headB ++ ents E k := ⟨_, rfl⟩
          rw [← hL] at HB
          have hE1 : E k = 32 :: (X k).data.toList ++ 58 :: Lib.itoa (Y k) := HXE.out k
          have hfin : L ++ [32] ++ (X k).data.toList ++ [58] ++ Lib.itoa (Y k) = l ++ headB ++ ents E (k + 1) := by
            rw [ents_succ, hE1, hL]; simp
          have hLl : L.length ≤ 1048576 + 8 + 8589934592 := by
            have := HEnt.out k (by omega)
            have := HZ.out
            rw [hL, List.length_append, List.length_append]
            have h8 : headB.length = 8 := rfl
            omega
          have HFin := Lib.hid hfin
          clear hfin hE1 hL
          have hdl' : (X k).data.toList.length = (X k).size := rfl
          go_wp2_with (at_builtin; refine wpList_sep_byte rfl _ _ rfl rfl 32 32 rfl HB.out rfl rfl (by omega) ?_; intro z2 x2 hb2; refine Hid.out ?_)
          refine Lib.hid ?_
          have HX2 := Lib.hid hb2
          clear hb2
          have g1 := KC1.out x2 (HX2.out.mid g HG.out.1 HG.out.2)
          go_wp2_with (at_builtin; refine wpList_sep_text rfl _ _ rfl rfl HX2.out (X k) rfl (by simp only [List.length_append, List.length_cons, List.length_nil]; omega) ?_; intro z3 x3 hb3; refine Hid.out ?_)
          refine Lib.hid ?_
          have HX3 := Lib.hid hb3
          clear hb3 g1 HX2
          go_wp2_with (at_builtin; refine wpList_sep_byte rfl _ _ rfl rfl 58 58 rfl HX3.out rfl rfl (by simp only [List.length_append, List.length_cons, List.length_nil]; omega) ?_; intro z4 x4 hb4; refine Hid.out ?_)
          refine Lib.hid ?_
          have HX4 := Lib.hid hb4
          clear hb4 HX3
          have g2 := KC2.out x4 (HX4.out.mid g HG.out.1 HG.out.2)
          go_wp2_with (go_at_call 9; refine (itoa_any x4 (Y k) hr.1 hr.2).mono ?_; rintro e x5 ⟨z5, rfl, hb5⟩; refine Hid.out ?_)
          refine Lib.hid ?_
          have HX5 := Lib.hid (HX4.out.after hb5.keeps.below)
          obtain ⟨gi, ci, hvi, -, -, -, -, hci⟩ := hb5.at (itoa_pos _)
          subst hvi
          have HCI : Hid (∀ j u, (Lib.byteCells (Lib.itoa (Y k)))[j]? = some u → x5.cell? ((⟨gi, 0, none⟩ : Addr).add j) = some u) := fun j u hj => by rw [WideShapes.add_plain]; exact hci j u hj
          have hil := Lib.itoa_length_le (Y k) hr.1 hr.2
          clear hci hb5 HX4 g2
          go_wp2_with (at_builtin; refine wpList_sep_slice rfl _ _ rfl rfl HX5.out (Lib.itoa (Y k)) ⟨gi, 0, none⟩ ci rfl HCI.out (by simp only [List.length_append, List.length_cons, List.length_nil]; omega) ?_; intro z6 x6 hb6; refine Hid.out ?_)
          refine Lib.hid ?_
          rw [HFin.out] at hb6
          have HX6 := Lib.hid hb6
          clear hb6 HX5
          go_wp2
          go_roundw
          case rel => exact ⟨k + 1, by simp, by omega, HX6⟩
          case measure => simp [intOf]; omega
        · have e0 : k = M := by omega
          subst e0
          have hnl : (l ++ headB ++ ents E k).length + 1 ≤ 140737488355328 := by
            have := HEnt.out k (Nat.le_refl _)
            have := HZ.out
            have h8 : headB.length = 8 := rfl
            rw [List.length_append, List.length_append]
            omega
          have HNL := Lib.hid hnl
          clear hnl
          go_wp2_with (at_builtin; refine wpList_sep_byte rfl _ _ rfl rfl 10 10 rfl HB.out rfl rfl HNL.out ?_; intro z2 x2 hb2; refine Hid.out ?_)
          refine Lib.hid ?_
          have e9 : l ++ headB ++ ents E k ++ [10] = l ++ lineOf E k := by simp [lineOf]
          rw [e9] at hb2
          clear e9
          have hcv1 := HB5.out.mid (w' := x2) (Nat.le_refl w1.heap.size) (Nat.le_refl w5.heap.size) hb2.buf.keeps.below.size hb2.mid
          have hcv2 := hb2.buf.str
          have HLF : Hid (Below w'.heap.size w' x2) := (below_to HL1.out HL1.out.size HL15.out).trans hb2.buf.keeps.below
          clear hb2
          go_wp2
          go_ret
          exact ⟨rfl, HLF.out⟩
end Go.Proofs.Qxb6619248aDoor
