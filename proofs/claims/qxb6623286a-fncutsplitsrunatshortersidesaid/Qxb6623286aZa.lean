import Derived.Test.Qxb6623286aZ9
namespace Go.Proofs.Qxb6623286a
open Go.RowKit

theorem mid_step' {w3 wr : World} {S M C n nc cap : Nat} {tv rv sv : Value} {cl : Int} {mc ms F L : Nat → Int} {N : Nat → Value} {B Lc c0 d s0 g0 j u : Nat} {run : Nat → Nat} {mcj msj lst : Nat → Int} {Nv : Value} {thr rev lst0 : Nat → Int} {f l : Int} (hu : u = run (s0 + j))
    (h : Mid w3 wr S M C n nc cap tv rv sv cl mc ms F L N B Lc c0 d s0 g0 j run mcj msj lst Nv) (hr : Run n Lc c0 thr rev mc ms f l lst0 run) (hj : s0 + j < Lc) (hd : d < nc) (hc0 : c0 < nc) (hne : d ≠ c0) (hB : B ≤ w3.heap.size) (hL : Lc ≤ 65536)
    (hng : (N d).ownBlock ≠ some g0) (hg0 : g0 < w3.heap.size) :
    Calls Try.prog 12 #[.pointer (some ⟨S, 0, none⟩), .int .i32 (u : Nat), .int .i32 d] wr fun e w' => ∃ x, e = .returned x ∧ ∃ mcj' msj' lst' Nv', Mid w3 w' S M C n nc cap tv rv sv cl mc ms F L N B Lc c0 d s0 g0 (j + 1) run mcj' msj' lst' Nv' := by
  subst hu; exact mid_step h hr hj hd hc0 hne hB hL hng hg0

set_option maxRecDepth 100000 in
set_option maxHeartbeats 4000000 in
theorem cut_tail (w : World) (S M C n nc : Nat) (sv : Value) (cl : Int) (mc ms F L : Nat → Int) (N : Nat → Value) (B ns : Nat) (sp : Nat → Int) (ln : Nat → Nat) (nd : Nat → Nat → Int) (gb : Nat → Nat) (thr rev : Nat → Int) (tb rb Lc c0 pos : Nat) (run : Nat → Nat)
    (h : Pre w S M C n nc sv cl mc ms F L N B ns sp ln nd gb thr rev tb rb Lc c0 run) (hp0 : 0 < pos) (hpL : pos < Lc) (hside : Lc - pos ≤ pos) :
    Calls Try.prog 10 #[.pointer (some ⟨S, 0, none⟩), .int .i32 (run pos : Nat)] w fun e w' => e = .returned (.tuple #[]) ∧ ∃ s0 m d nc' C' cap' sv' mc' ms' F' L' lst' N',
      CutDone w w' S M C n nc (.slice (some ⟨tb, 0, none⟩) n n) (.slice (some ⟨rb, 0, none⟩) n n) cl mc ms F L N B ns sp gb Lc c0 pos run s0 m d nc' C' cap' sv' mc' ms' F' L' lst' N' := by
  obtain ⟨s8, s9, s11, s12, -, -⟩ := h.st.s.cell
  have HH := Lib.hid h
  have HRN := Lib.hid h.rn
  have HS := Lib.hid hside
  obtain ⟨v, hv⟩ : ∃ v, v = run pos := ⟨_, rfl⟩
  obtain ⟨f0, hf0⟩ : ∃ v, v = run 0 := ⟨_, rfl⟩
  obtain ⟨l0, hl0⟩ : ∃ v, v = run (Lc - 1) := ⟨_, rfl⟩
  obtain ⟨b0, hb0⟩ : ∃ v, v = run (pos - 1) := ⟨_, rfl⟩
  have hvn : (v : Int) < n := by have := h.rn.lt pos hpL; omega
  have hc0 : (c0 : Int) < nc := by have := h.hc0; omega
  obtain ⟨m0, -⟩ := h.st.m.cell (v := v) (by omega)
  rw [hv, h.rn.chunk pos hpL, ← hv] at m0
  obtain ⟨c1, c2, -⟩ := h.st.ch.cell (c := c0) h.hc0
  rw [h.rn.first, ← hf0] at c1
  rw [h.rn.last, ← hl0] at c2
  have rv0 := h.rrow.cell (i := v) (by omega)
  have hrv : rev v = b0 := by
    have := h.rn.prev (pos - 1) (by omega)
    rw [show pos - 1 + 1 = pos by omega, ← hv, ← hb0] at this; exact this
  rw [hrv] at rv0
  have hne : f0 ≠ v := fun e => by
    rw [hf0, hv] at e
    have := h.rn.inj 0 pos (by omega) hpL e; omega
  have hneB : ((f0 : Int) == v) = false := by simp; omega
  have HV := Lib.hid (And.intro hv (And.intro hf0 (And.intro hl0 hb0)))
  have hLs : (Lc : Int) ≤ 65536 := by have := h.small.2.2; omega
  rw [← hv]
  clear h hv hf0 hl0 hb0 hrv hne hside
  go_enter Try.func10, Try.ntmps10
  go_wp2
  go_quiet (fail)
  go_wp2
  go_quiet (fail)
  go_wp2
  go_quiet (fail)
  go_wp2
  go_loopw [9, 10, 11] (fun zp zq zn wr => ∃ (i p q Q : Nat), zp = .int .i32 p ∧ zq = .int .i32 q ∧ zn = .int .i64 ((i : Int) + 1) ∧ wr = w.drewN Q ∧ Hid (p = run (pos + i) ∧ q = run (pos - 1 - i) ∧ pos + i ≤ Lc - 1 ∧ i ≤ pos - 1)) (fun _ _ zn _ => Lc - (intOf zn).toNat)
  case atStart => exact ⟨0, v, b0, _, rfl, rfl, rfl, drew3 w _ _ _, by have := HV.out; exact ⟨this.1, this.2.2.2, by omega, by omega⟩⟩
  case round =>
    obtain ⟨i, p, q, Q, rfl, rfl, rfl, rfl, HI⟩ := hrel
    obtain ⟨ev, ef, el, eb⟩ := HV.out
    by_cases hA : pos + i = Lc - 1
    · have e : p = l0 := by rw [HI.out.1, hA, el]
      subst e
      have HA := Lib.hid hA
      clear hA ev ef el eb
      have fz := HH.out.st.ch.frozen (c0 * 3 + 1)
      go_wp2
      go_region
      obtain ⟨w2, hw2⟩ : ∃ w2, w2 = (w.drewN (Q + 1)).setCell ⟨C, c0 * 3 + 1, none⟩ (.int .i32 b0) := ⟨_, rfl⟩
      have HT2 : Hid (St w2 S M C n nc nc (.slice (some ⟨tb, 0, none⟩) n n) (.slice (some ⟨rb, 0, none⟩) n n) sv cl mc ms F (upd L c0 b0) N) := by rw [hw2]; exact (HH.out.st.drewN _).setL c0 b0
      have HC2 : Hid (Chg (fun b => b = C) w w2) := by rw [hw2]; exact ((Chg.refl (fun b => b = C) w).drewN _).setCell ⟨C, c0 * 3 + 1, none⟩ rfl _
      have HL2 : Hid (Lists w2 B nc N ln nd gb) := HH.out.lists.keep (fun b nn f hr => HC2.out.block b hr.lt (HH.out.st.ch.ne hr (by decide)))
      have HP2 : Hid (SpareIs w2 sv ns sp B) := HH.out.spare.keep (fun b hb hb2 => HC2.out.block b hb2 (by have := HH.out.above; omega))
      have HMM : Hid (i + 1 = Lc - pos) := by have := HA.out; have := HI.out; show _ = _; omega
      rw [← hw2]
      clear hw2 s8 s9 s11 s12 m0 c1 c2 rv0 fz
      go_wp2_with fail
      refine (new_any w2 S M C n nc (.slice (some ⟨tb, 0, none⟩) n n) (.slice (some ⟨rb, 0, none⟩) n n) sv cl mc ms F (upd L c0 b0) N v B ns sp ln nd gb HT2.out (by have := HH.out.small; omega) HL2.out HP2.out (fun k hk => by obtain ⟨d, a1, _, a3⟩ := HH.out.sp0 k hk; exact ⟨d, a1, a3⟩) HH.out.above.1 HH.out.above.2.2.1).mono ?_
      rintro e w3 ⟨d, nc', C', cap', sv', F', L', N', rfl, hfr, hsp, hd1, hd2⟩
      have hdc : d ≠ c0 := by
        by_cases h0 : ns = 0
        · have := (hd1 h0).1; have := HH.out.hc0; omega
        · obtain ⟨e1, e2, _⟩ := hd2 (by omega)
          obtain ⟨d', a1, a2, a3⟩ := HH.out.sp0 (ns - 1) (by omega)
          rw [e1] at a3
          omega
      have HFR := Lib.hid hfr
      have HSP := Lib.hid hsp
      have HDD := Lib.hid (And.intro hd1 hd2)
      have HDC := Lib.hid hdc
      have hdn : (d : Int) < nc' := by have := hfr.lt; omega
      clear hfr hsp hd1 hd2 hdc
      obtain ⟨-, -, -, s12, -, -⟩ := HFR.out.st.s.cell
      obtain ⟨-, q1, -⟩ := HFR.out.st.ch.cell (c := d) HFR.out.lt
      have fz := HFR.out.st.ch.frozen (d * 3 + 1)
      go_wp2
      obtain ⟨w4, hw4⟩ : ∃ w4, w4 = w3.setCell ⟨C', d * 3 + 1, none⟩ (.int .i32 p) := ⟨_, rfl⟩
      have HN0 : Hid (N' c0 = .slice (some ⟨gb c0, 0, none⟩) Lc Lc ∧ B ≤ gb c0 ∧ w.rowIs (gb c0) 21 Lc (fun j => .int .i32 (nd c0 j))) := by
        rw [(HFR.out.keep c0 HH.out.hc0 (Ne.symm HDC.out)).2.2]
        rcases HH.out.lists.row c0 HH.out.hc0 with ⟨e, _⟩ | ⟨e, hB, hr⟩
        · have := HH.out.len; have := HH.out.hLc; omega
        · rw [HH.out.len] at e hr; exact ⟨e, hB, hr⟩
      have HW4 : Hid (∀ b, b < w.heap.size → b ≠ S → b ≠ C → b ≠ C' → w4.heap[b]? = w.heap[b]?) := fun b hb h1 h2 h3 => by
        rw [hw4, Below.heap_setCell _ _ _ _ h3, HFR.out.chg.block b (Nat.lt_of_lt_of_le hb HC2.out.size) (fun hT => by rcases hT with e | e; exact h1 e; exact h2 e)]
        exact HC2.out.block b hb h2
      have HZ4 : Hid (w.heap.size ≤ w4.heap.size) := by
        rw [hw4]; have := HFR.out.chg.size; have := HC2.out.size; simp [World.setCell]; show _ ≤ _; omega
      have HM0 : Hid (Mid w4 w4 S M C' n nc' cap' (.slice (some ⟨tb, 0, none⟩) n n) (.slice (some ⟨rb, 0, none⟩) n n) sv' cl mc ms F' (upd L' d p) N' B Lc c0 d pos (gb c0) 0 run mc ms (nd c0) (N' d)) := by
        have hst : St w4 S M C' n nc' cap' (.slice (some ⟨tb, 0, none⟩) n n) (.slice (some ⟨rb, 0, none⟩) n n) sv' cl mc ms F' (upd L' d p) N' := by rw [hw4]; exact HFR.out.st.setL d p
        have hrow : w4.rowIs (gb c0) 21 Lc (fun j => .int .i32 (nd c0 j)) := by
          have hr := HN0.out.2.2
          obtain ⟨gS, hgS⟩ := HH.out.st.s.row
          exact hr.of_block (HW4.out (gb c0) hr.lt (row_ne hr hgS (by decide)) (HH.out.st.ch.ne hr (by decide)) (by
            rcases HFR.out.cb with e | e
            · rw [e]; exact HH.out.st.ch.ne hr (by decide)
            · have := hr.lt; have := HC2.out.size; omega))
        have hown : w4.ownsRow B 21 1 (N' d) 0 [] := by rw [hw4]; exact own_set HFR.out.own (a := ⟨C', d * 3 + 1, none⟩) (HFR.out.st.ch.own HFR.out.own) _
        exact mid_start hst hrow hown HRN.out HN0.out.1
      have HNG : Hid ((N' d).ownBlock ≠ some (gb c0)) := fun e => by
        obtain ⟨e1, e2⟩ := HFR.out.blk _ e
        rcases HH.out.lists.row d e2 with ⟨_, e3⟩ | ⟨e3, _⟩
        · rw [e3] at e1; cases e1
        · rw [e3] at e1
          have : gb d = gb c0 := by simpa [Value.ownBlock] using e1
          exact HDC.out (HH.out.lists.inj d c0 e2 HH.out.hc0 this)
      have HG0 : Hid (gb c0 < w4.heap.size) := Nat.lt_of_lt_of_le HN0.out.2.2.lt HZ4.out
      have HNN : Hid (nc ≤ nc') := by
        by_cases h0 : ns = 0
        · have := (HDD.out.1 h0).2; show _ ≤ _; omega
        · have := (HDD.out.2 (by omega)).2.2; show _ ≤ _; omega
      have HOW : Hid (∀ b, (N' d).ownBlock = some b → B ≤ b) := fun b e => (HFR.out.own.lt b e).1
      have HCB : Hid (B ≤ C') := by
        have := HH.out.above; have := HC2.out.size
        rcases HFR.out.cb with e | e
        · rw [e]; exact HH.out.above.2.2.1
        · show _ ≤ _; omega
      rw [← hw4]
      have HW4e := Lib.hid hw4
      clear hw4 s12 q1 fz
      go_wp2
      go_loopw [14, 15] (fun zw zi wr => ∃ (j : Nat) (x y : Int) (mcj msj lst : Nat → Int) (Nv : Value), zw = .int .i32 x ∧ zi = .int .i64 y ∧ Hid (y = (i : Int) + 1 - j ∧ j ≤ i + 1 ∧ (j < i + 1 → x = run (pos + j)) ∧ Mid w4 wr S M C' n nc' cap' (.slice (some ⟨tb, 0, none⟩) n n) (.slice (some ⟨rb, 0, none⟩) n n) sv' cl mc ms F' (upd L' d p) N' B Lc c0 d pos (gb c0) j run mcj msj lst Nv)) (fun _ zi _ => (intOf zi).toNat)
      case atStart => exact ⟨0, _, _, mc, ms, nd c0, N' d, rfl, rfl, by omega, by omega, fun _ => by have := HV.out.1; show ((v : Nat) : Int) = ((run pos : Nat) : Int); rw [this], HM0.out⟩
      case round =>
        obtain ⟨j, x, y, mcj, msj, lst, Nv, rfl, rfl, HR⟩ := hrel
        by_cases hj : j < i + 1
        · have hy : (0 : Int) < y := by have := HR.out.1; omega
          have hyl : y ≤ 65536 := by have := HR.out.1; have := HMM.out; omega
          have hx0 : x = (run (pos + j) : Nat) := HR.out.2.2.1 hj
          obtain ⟨u, hu⟩ : ∃ u, u = run (pos + j) := ⟨_, rfl⟩
          rw [← hu] at hx0
          subst hx0
          have hjL : pos + j < Lc := by have := HMM.out; omega
          have hun : (u : Int) < n := by have := HRN.out.lt _ hjL; omega
          have HU := Lib.hid hu
          have HJ := Lib.hid hj
          clear hu hj
          go_wp2_with (go_at_call 12; refine (mid_step' HU.out HR.out.2.2.2 HRN.out hjL HFR.out.lt (Nat.lt_of_lt_of_le HH.out.hc0 HNN.out) HDC.out (Nat.le_trans HH.out.above.2.2.2 HZ4.out) (by omega) HNG.out HG0.out).mono ?_; rintro e w5 ⟨x5, rfl, mcj', msj', lst', Nv', hmid⟩; refine Hid.out ?_)
          refine Lib.hid ?_
          have HMid := Lib.hid hmid
          clear hmid
          have g1 : w5.cell? ⟨tb, u, none⟩ = some (.int .i32 (thr u)) := by
            have h1 := HH.out.trow.cell (i := u) (by omega)
            have h2 : w5.heap[tb]? = w.heap[tb]? := by
              have a1 := HH.out.above; have a2 := HH.out.tbB; have a3 := HCB.out; have a4 := HN0.out.2.1; have a5 := HZ4.out
              rw [HMid.out.chg.block tb (by omega) (fun hT => by
                rcases hT with e | e | e | e | e
                · omega
                · omega
                · omega
                · have := HOW.out tb e.symm; omega
                · omega)]
              exact HW4.out tb (by omega) (by omega) (by omega) (by omega)
            unfold World.cell? at h1 ⊢
            rw [h2]; exact h1
          go_wp2
          go_roundw
          case rel => exact ⟨j + 1, _, _, mcj', msj', lst', Nv', rfl, rfl, by have := HR.out.1; push_cast; omega, by have := HJ.out; omega, fun h => by
            have hn := HRN.out.next (pos + j) (by have := HMM.out; omega)
            rw [← HU.out] at hn
            rw [hn, Nat.add_assoc], HMid.out⟩
          case measure => simp [intOf]; omega
        · have ej : j = i + 1 := by have := HR.out.2.1; omega
          have ey : y = 0 := by have := HR.out.1; omega
          subst ej
          subst ey
          obtain ⟨-, -, -, -, -, s14⟩ := HR.out.2.2.2.st.s.cell
          have fz := HR.out.2.2.2.st.s.frozen 14
          clear hj
          have HDone : Hid (∃ mc' ms' F'' L'' lst' N'', CutDone w (wr.setCell ⟨S, 14, none⟩ (.int .i64 (wrap64 (cl + ((i : Int) + 1))))) S M C n nc (.slice (some ⟨tb, 0, none⟩) n n) (.slice (some ⟨rb, 0, none⟩) n n) cl mc ms F L N B ns sp gb Lc c0 pos run pos (i + 1) d nc' C' cap' sv' mc' ms' F'' L'' lst' N'') := by
            have hmid := HR.out.2.2.2
            rw [HW4e.out] at hmid
            have := cut_close (pos := pos) HH.out HC2.out HFR.out HSP.out HDD.out HDC.out (by have := HV.out.1; show ((v : Nat) : Int) = ((run pos : Nat) : Int); rw [this]) (by have := HV.out.2.2.1; have e := HMM.out; rw [this, show pos + (i + 1) - 1 = Lc - 1 by omega]) ⟨by rw [HH.out.rn.first]; simp [show ¬ pos = 0 by omega], by simp [upd, show ¬ pos = 0 by omega]; have := HV.out.2.2.2; omega⟩ (fun k hk => by simp [upd, hk]) hmid (.inl ⟨HS.out, rfl, HMM.out⟩)
            have ec : (((i + 1 : Nat) : Nat) : Int) = (i : Int) + 1 := by omega
            rw [ec] at this
            exact this
          go_wp2
          obtain ⟨mc', ms', F'', L'', lst', N'', hdone⟩ := HDone.out
          go_end0
          exact ⟨rfl, _, _, _, _, _, _, _, _, _, _, _, _, _, hdone⟩
    · have hpl : p ≠ l0 := fun e => by
        rw [HI.out.1, el] at e
        have := HRN.out.inj _ _ (by have := HI.out; omega) (by omega) e
        omega
      have t1 : ((p : Int) != l0) = true := by simp; omega
      have t2 : ((p : Int) == l0) = false := by simp; omega
      by_cases hQ : pos - 1 - i = 0
      · have e : q = f0 := by rw [HI.out.2.1, hQ, ef]
        subst e
        have HA := Lib.hid (And.intro hA hQ)
        clear hA hQ ev ef el eb hpl
        exfalso
        have := HS.out; have := HI.out; have := HA.out; omega
      · have hqf : q ≠ f0 := fun e => by
          rw [HI.out.2.1, ef] at e
          have := HRN.out.inj _ _ (by omega) (by omega) e
          omega
        have t3 : ((q : Int) != f0) = true := by simp; omega
        have hp : p < n := by rw [HI.out.1]; exact HRN.out.lt _ (by have := HI.out; omega)
        have hq : q < n := by rw [HI.out.2.1]; exact HRN.out.lt _ (by omega)
        have hp' : (p : Int) < n := by omega
        have hq' : (q : Int) < n := by omega
        have g1 := HH.out.trow.cell (i := p) hp
        have g2 := HH.out.rrow.cell (i := q) hq
        have n1 := HRN.out.next (pos + i) (by have := HI.out; omega)
        have n2 := HRN.out.prev (pos - 1 - i - 1) (by omega)
        rw [show pos - 1 - i - 1 + 1 = pos - 1 - i by omega] at n2
        rw [HI.out.1, n1, ← HI.out.1] at g1
        rw [HI.out.2.1, n2, ← HI.out.2.1] at g2
        clear n1 n2 hp hq ev ef el eb hpl hqf
        have HA := Lib.hid (And.intro hA hQ)
        clear hA hQ
        have hiL : (i : Int) + 2 ≤ Lc := by have := HI.out; have := HA.out; omega
        go_wp2
        go_quiet (fail)
        go_wp2
        go_roundw
        case rel => exact ⟨i + 1, run (pos + i + 1), run (pos - 1 - i - 1), _, rfl, rfl, by go_num, drew2 w _ _, by have := HI.out; have := HA.out; exact ⟨by rw [Nat.add_assoc], by first | rfl | (congr 1; omega), by omega, by omega⟩⟩
        case measure => simp [intOf]; omega

set_option maxRecDepth 100000 in
set_option maxHeartbeats 4000000 in
theorem cut_head (w : World) (S M C n nc : Nat) (sv : Value) (cl : Int) (mc ms F L : Nat → Int) (N : Nat → Value) (B ns : Nat) (sp : Nat → Int) (ln : Nat → Nat) (nd : Nat → Nat → Int) (gb : Nat → Nat) (thr rev : Nat → Int) (tb rb Lc c0 pos : Nat) (run : Nat → Nat)
    (h : Pre w S M C n nc sv cl mc ms F L N B ns sp ln nd gb thr rev tb rb Lc c0 run) (hp0 : 0 < pos) (hpL : pos < Lc) (hside : ¬ (Lc - pos ≤ pos)) :
    Calls Try.prog 10 #[.pointer (some ⟨S, 0, none⟩), .int .i32 (run pos : Nat)] w fun e w' => e = .returned (.tuple #[]) ∧ ∃ s0 m d nc' C' cap' sv' mc' ms' F' L' lst' N',
      CutDone w w' S M C n nc (.slice (some ⟨tb, 0, none⟩) n n) (.slice (some ⟨rb, 0, none⟩) n n) cl mc ms F L N B ns sp gb Lc c0 pos run s0 m d nc' C' cap' sv' mc' ms' F' L' lst' N' := by
  obtain ⟨s8, s9, s11, s12, -, -⟩ := h.st.s.cell
  have HH := Lib.hid h
  have HRN := Lib.hid h.rn
  have HS := Lib.hid hside
  obtain ⟨v, hv⟩ : ∃ v, v = run pos := ⟨_, rfl⟩
  obtain ⟨f0, hf0⟩ : ∃ v, v = run 0 := ⟨_, rfl⟩
  obtain ⟨l0, hl0⟩ : ∃ v, v = run (Lc - 1) := ⟨_, rfl⟩
  obtain ⟨b0, hb0⟩ : ∃ v, v = run (pos - 1) := ⟨_, rfl⟩
  have hvn : (v : Int) < n := by have := h.rn.lt pos hpL; omega
  have hc0 : (c0 : Int) < nc := by have := h.hc0; omega
  obtain ⟨m0, -⟩ := h.st.m.cell (v := v) (by omega)
  rw [hv, h.rn.chunk pos hpL, ← hv] at m0
  obtain ⟨c1, c2, -⟩ := h.st.ch.cell (c := c0) h.hc0
  rw [h.rn.first, ← hf0] at c1
  rw [h.rn.last, ← hl0] at c2
  have rv0 := h.rrow.cell (i := v) (by omega)
  have hrv : rev v = b0 := by
    have := h.rn.prev (pos - 1) (by omega)
    rw [show pos - 1 + 1 = pos by omega, ← hv, ← hb0] at this; exact this
  rw [hrv] at rv0
  have hne : f0 ≠ v := fun e => by
    rw [hf0, hv] at e
    have := h.rn.inj 0 pos (by omega) hpL e; omega
  have hneB : ((f0 : Int) == v) = false := by simp; omega
  have HV := Lib.hid (And.intro hv (And.intro hf0 (And.intro hl0 hb0)))
  have hLs : (Lc : Int) ≤ 65536 := by have := h.small.2.2; omega
  rw [← hv]
  clear h hv hf0 hl0 hb0 hrv hne hside
  go_enter Try.func10, Try.ntmps10
  go_wp2
  go_quiet (fail)
  go_wp2
  go_quiet (fail)
  go_wp2
  go_quiet (fail)
  go_wp2
  go_loopw [9, 10, 11] (fun zp zq zn wr => ∃ (i p q Q : Nat), zp = .int .i32 p ∧ zq = .int .i32 q ∧ zn = .int .i64 ((i : Int) + 1) ∧ wr = w.drewN Q ∧ Hid (p = run (pos + i) ∧ q = run (pos - 1 - i) ∧ pos + i ≤ Lc - 1 ∧ i ≤ pos - 1)) (fun _ _ zn _ => Lc - (intOf zn).toNat)
  case atStart => exact ⟨0, v, b0, _, rfl, rfl, rfl, drew3 w _ _ _, by have := HV.out; exact ⟨this.1, this.2.2.2, by omega, by omega⟩⟩
  case round =>
    obtain ⟨i, p, q, Q, rfl, rfl, rfl, rfl, HI⟩ := hrel
    obtain ⟨ev, ef, el, eb⟩ := HV.out
    by_cases hA : pos + i = Lc - 1
    · have e : p = l0 := by rw [HI.out.1, hA, el]
      subst e
      have HA := Lib.hid hA
      clear hA ev ef el eb
      exfalso
      have := HS.out; have := HI.out; have := HA.out; omega
    · have hpl : p ≠ l0 := fun e => by
        rw [HI.out.1, el] at e
        have := HRN.out.inj _ _ (by have := HI.out; omega) (by omega) e
        omega
      have t1 : ((p : Int) != l0) = true := by simp; omega
      have t2 : ((p : Int) == l0) = false := by simp; omega
      by_cases hQ : pos - 1 - i = 0
      · have e : q = f0 := by rw [HI.out.2.1, hQ, ef]
        subst e
        have HA := Lib.hid (And.intro hA hQ)
        clear hA hQ ev ef el eb hpl
        have fz := HH.out.st.ch.frozen (c0 * 3)
        go_wp2
        go_quiet (fail)
        go_wp2_with fail
        obtain ⟨w2, hw2⟩ : ∃ w2, w2 = (w.drewN (Q + nq)).setCell ⟨C, c0 * 3, none⟩ (.int .i32 v) := ⟨_, rfl⟩
        have HT2 : Hid (St w2 S M C n nc nc (.slice (some ⟨tb, 0, none⟩) n n) (.slice (some ⟨rb, 0, none⟩) n n) sv cl mc ms (upd F c0 v) L N) := by rw [hw2]; exact (HH.out.st.drewN _).setF c0 v
        have HC2 : Hid (Chg (fun b => b = C) w w2) := by rw [hw2]; exact ((Chg.refl (fun b => b = C) w).drewN _).setCell ⟨C, c0 * 3, none⟩ rfl _
        have HL2 : Hid (Lists w2 B nc N ln nd gb) := HH.out.lists.keep (fun b nn f hr => HC2.out.block b hr.lt (HH.out.st.ch.ne hr (by decide)))
        have HP2 : Hid (SpareIs w2 sv ns sp B) := HH.out.spare.keep (fun b hb hb2 => HC2.out.block b hb2 (by have := HH.out.above; omega))
        have HMM : Hid (i + 1 = pos) := by have := HA.out; have := HI.out; show _ = _; omega
        rw [← hw2]
        clear hw2 s8 s9 s11 s12 m0 c1 c2 rv0 fz
        refine (new_any w2 S M C n nc (.slice (some ⟨tb, 0, none⟩) n n) (.slice (some ⟨rb, 0, none⟩) n n) sv cl mc ms (upd F c0 v) L N q B ns sp ln nd gb HT2.out (by have := HH.out.small; omega) HL2.out HP2.out (fun k hk => by obtain ⟨d, a1, _, a3⟩ := HH.out.sp0 k hk; exact ⟨d, a1, a3⟩) HH.out.above.1 HH.out.above.2.2.1).mono ?_
        rintro e w3 ⟨d, nc', C', cap', sv', F', L', N', rfl, hfr, hsp, hd1, hd2⟩
        have hdc : d ≠ c0 := by
          by_cases h0 : ns = 0
          · have := (hd1 h0).1; have := HH.out.hc0; omega
          · obtain ⟨e1, e2, _⟩ := hd2 (by omega)
            obtain ⟨d', a1, a2, a3⟩ := HH.out.sp0 (ns - 1) (by omega)
            rw [e1] at a3
            omega
        have HFR := Lib.hid hfr
        have HSP := Lib.hid hsp
        have HDD := Lib.hid (And.intro hd1 hd2)
        have HDC := Lib.hid hdc
        have hdn : (d : Int) < nc' := by have := hfr.lt; omega
        clear hfr hsp hd1 hd2 hdc
        obtain ⟨-, -, -, s12, -, -⟩ := HFR.out.st.s.cell
        obtain ⟨-, q1, -⟩ := HFR.out.st.ch.cell (c := d) HFR.out.lt
        have fz := HFR.out.st.ch.frozen (d * 3 + 1)
        go_wp2
        obtain ⟨w4, hw4⟩ : ∃ w4, w4 = w3.setCell ⟨C', d * 3 + 1, none⟩ (.int .i32 b0) := ⟨_, rfl⟩
        have HN0 : Hid (N' c0 = .slice (some ⟨gb c0, 0, none⟩) Lc Lc ∧ B ≤ gb c0 ∧ w.rowIs (gb c0) 21 Lc (fun j => .int .i32 (nd c0 j))) := by
          rw [(HFR.out.keep c0 HH.out.hc0 (Ne.symm HDC.out)).2.2]
          rcases HH.out.lists.row c0 HH.out.hc0 with ⟨e, _⟩ | ⟨e, hB, hr⟩
          · have := HH.out.len; have := HH.out.hLc; omega
          · rw [HH.out.len] at e hr; exact ⟨e, hB, hr⟩
        have HW4 : Hid (∀ b, b < w.heap.size → b ≠ S → b ≠ C → b ≠ C' → w4.heap[b]? = w.heap[b]?) := fun b hb h1 h2 h3 => by
          rw [hw4, Below.heap_setCell _ _ _ _ h3, HFR.out.chg.block b (Nat.lt_of_lt_of_le hb HC2.out.size) (fun hT => by rcases hT with e | e; exact h1 e; exact h2 e)]
          exact HC2.out.block b hb h2
        have HZ4 : Hid (w.heap.size ≤ w4.heap.size) := by
          rw [hw4]; have := HFR.out.chg.size; have := HC2.out.size; simp [World.setCell]; show _ ≤ _; omega
        have HM0 : Hid (Mid w4 w4 S M C' n nc' cap' (.slice (some ⟨tb, 0, none⟩) n n) (.slice (some ⟨rb, 0, none⟩) n n) sv' cl mc ms F' (upd L' d b0) N' B Lc c0 d 0 (gb c0) 0 run mc ms (nd c0) (N' d)) := by
          have hst : St w4 S M C' n nc' cap' (.slice (some ⟨tb, 0, none⟩) n n) (.slice (some ⟨rb, 0, none⟩) n n) sv' cl mc ms F' (upd L' d b0) N' := by rw [hw4]; exact HFR.out.st.setL d b0
          have hrow : w4.rowIs (gb c0) 21 Lc (fun j => .int .i32 (nd c0 j)) := by
            have hr := HN0.out.2.2
            obtain ⟨gS, hgS⟩ := HH.out.st.s.row
            exact hr.of_block (HW4.out (gb c0) hr.lt (row_ne hr hgS (by decide)) (HH.out.st.ch.ne hr (by decide)) (by
              rcases HFR.out.cb with e | e
              · rw [e]; exact HH.out.st.ch.ne hr (by decide)
              · have := hr.lt; have := HC2.out.size; omega))
          have hown : w4.ownsRow B 21 1 (N' d) 0 [] := by rw [hw4]; exact own_set HFR.out.own (a := ⟨C', d * 3 + 1, none⟩) (HFR.out.st.ch.own HFR.out.own) _
          exact mid_start hst hrow hown HRN.out HN0.out.1
        have HNG : Hid ((N' d).ownBlock ≠ some (gb c0)) := fun e => by
          obtain ⟨e1, e2⟩ := HFR.out.blk _ e
          rcases HH.out.lists.row d e2 with ⟨_, e3⟩ | ⟨e3, _⟩
          · rw [e3] at e1; cases e1
          · rw [e3] at e1
            have : gb d = gb c0 := by simpa [Value.ownBlock] using e1
            exact HDC.out (HH.out.lists.inj d c0 e2 HH.out.hc0 this)
        have HG0 : Hid (gb c0 < w4.heap.size) := Nat.lt_of_lt_of_le HN0.out.2.2.lt HZ4.out
        have HNN : Hid (nc ≤ nc') := by
          by_cases h0 : ns = 0
          · have := (HDD.out.1 h0).2; show _ ≤ _; omega
          · have := (HDD.out.2 (by omega)).2.2; show _ ≤ _; omega
        have HOW : Hid (∀ b, (N' d).ownBlock = some b → B ≤ b) := fun b e => (HFR.out.own.lt b e).1
        have HCB : Hid (B ≤ C') := by
          have := HH.out.above; have := HC2.out.size
          rcases HFR.out.cb with e | e
          · rw [e]; exact HH.out.above.2.2.1
          · show _ ≤ _; omega
        rw [← hw4]
        have HW4e := Lib.hid hw4
        clear hw4 s12 q1 fz
        go_wp2
        go_loopw [14, 15] (fun zw zi wr => ∃ (j : Nat) (x y : Int) (mcj msj lst : Nat → Int) (Nv : Value), zw = .int .i32 x ∧ zi = .int .i64 y ∧ Hid (y = (i : Int) + 1 - j ∧ j ≤ i + 1 ∧ (j < i + 1 → x = run (0 + j)) ∧ Mid w4 wr S M C' n nc' cap' (.slice (some ⟨tb, 0, none⟩) n n) (.slice (some ⟨rb, 0, none⟩) n n) sv' cl mc ms F' (upd L' d b0) N' B Lc c0 d 0 (gb c0) j run mcj msj lst Nv)) (fun _ zi _ => (intOf zi).toNat)
        case atStart => exact ⟨0, _, _, mc, ms, nd c0, N' d, rfl, rfl, by omega, by omega, fun _ => by have := HV.out.2.1; show ((q : Nat) : Int) = ((run 0 : Nat) : Int); rw [this], HM0.out⟩
        case round =>
          obtain ⟨j, x, y, mcj, msj, lst, Nv, rfl, rfl, HR⟩ := hrel
          by_cases hj : j < i + 1
          · have hy : (0 : Int) < y := by have := HR.out.1; omega
            have hyl : y ≤ 65536 := by have := HR.out.1; have := HMM.out; omega
            have hx0 : x = (run (0 + j) : Nat) := HR.out.2.2.1 hj
            obtain ⟨u, hu⟩ : ∃ u, u = run (0 + j) := ⟨_, rfl⟩
            rw [← hu] at hx0
            subst hx0
            have hjL : 0 + j < Lc := by have := HMM.out; omega
            have hun : (u : Int) < n := by have := HRN.out.lt _ hjL; omega
            have HU := Lib.hid hu
            have HJ := Lib.hid hj
            clear hu hj
            go_wp2_with (go_at_call 12; refine (mid_step' HU.out HR.out.2.2.2 HRN.out hjL HFR.out.lt (Nat.lt_of_lt_of_le HH.out.hc0 HNN.out) HDC.out (Nat.le_trans HH.out.above.2.2.2 HZ4.out) (by omega) HNG.out HG0.out).mono ?_; rintro e w5 ⟨x5, rfl, mcj', msj', lst', Nv', hmid⟩; refine Hid.out ?_)
            refine Lib.hid ?_
            have HMid := Lib.hid hmid
            clear hmid
            have g1 : w5.cell? ⟨tb, u, none⟩ = some (.int .i32 (thr u)) := by
              have h1 := HH.out.trow.cell (i := u) (by omega)
              have h2 : w5.heap[tb]? = w.heap[tb]? := by
                have a1 := HH.out.above; have a2 := HH.out.tbB; have a3 := HCB.out; have a4 := HN0.out.2.1; have a5 := HZ4.out
                rw [HMid.out.chg.block tb (by omega) (fun hT => by
                  rcases hT with e | e | e | e | e
                  · omega
                  · omega
                  · omega
                  · have := HOW.out tb e.symm; omega
                  · omega)]
                exact HW4.out tb (by omega) (by omega) (by omega) (by omega)
              unfold World.cell? at h1 ⊢
              rw [h2]; exact h1
            go_wp2
            go_roundw
            case rel => exact ⟨j + 1, _, _, mcj', msj', lst', Nv', rfl, rfl, by have := HR.out.1; push_cast; omega, by have := HJ.out; omega, fun h => by
              have hn := HRN.out.next (0 + j) (by have := HMM.out; omega)
              rw [← HU.out] at hn
              rw [hn, Nat.add_assoc], HMid.out⟩
            case measure => simp [intOf]; omega
          · have ej : j = i + 1 := by have := HR.out.2.1; omega
            have ey : y = 0 := by have := HR.out.1; omega
            subst ej
            subst ey
            obtain ⟨-, -, -, -, -, s14⟩ := HR.out.2.2.2.st.s.cell
            have fz := HR.out.2.2.2.st.s.frozen 14
            clear hj
            have HDone : Hid (∃ mc' ms' F'' L'' lst' N'', CutDone w (wr.setCell ⟨S, 14, none⟩ (.int .i64 (wrap64 (cl + ((i : Int) + 1))))) S M C n nc (.slice (some ⟨tb, 0, none⟩) n n) (.slice (some ⟨rb, 0, none⟩) n n) cl mc ms F L N B ns sp gb Lc c0 pos run 0 (i + 1) d nc' C' cap' sv' mc' ms' F'' L'' lst' N'') := by
              have hmid := HR.out.2.2.2
              rw [HW4e.out] at hmid
              have := cut_close (pos := pos) HH.out HC2.out HFR.out HSP.out HDD.out HDC.out (by have := HV.out.2.1; show ((q : Nat) : Int) = ((run 0 : Nat) : Int); rw [this]) (by have := HV.out.2.2.2; have e := HMM.out; rw [this, show 0 + (i + 1) - 1 = pos - 1 by omega]) ⟨by simp [upd]; have := HV.out.1; omega, by rw [HH.out.rn.last]; simp⟩ (fun k hk => by simp [upd, hk]) hmid (.inr ⟨HS.out, rfl, HMM.out⟩)
              have ec : (((i + 1 : Nat) : Nat) : Int) = (i : Int) + 1 := by omega
              rw [ec] at this
              exact this
            go_wp2
            obtain ⟨mc', ms', F'', L'', lst', N'', hdone⟩ := HDone.out
            go_end0
            exact ⟨rfl, _, _, _, _, _, _, _, _, _, _, _, _, _, hdone⟩
      · have hqf : q ≠ f0 := fun e => by
          rw [HI.out.2.1, ef] at e
          have := HRN.out.inj _ _ (by omega) (by omega) e
          omega
        have t3 : ((q : Int) != f0) = true := by simp; omega
        have hp : p < n := by rw [HI.out.1]; exact HRN.out.lt _ (by have := HI.out; omega)
        have hq : q < n := by rw [HI.out.2.1]; exact HRN.out.lt _ (by omega)
        have hp' : (p : Int) < n := by omega
        have hq' : (q : Int) < n := by omega
        have g1 := HH.out.trow.cell (i := p) hp
        have g2 := HH.out.rrow.cell (i := q) hq
        have n1 := HRN.out.next (pos + i) (by have := HI.out; omega)
        have n2 := HRN.out.prev (pos - 1 - i - 1) (by omega)
        rw [show pos - 1 - i - 1 + 1 = pos - 1 - i by omega] at n2
        rw [HI.out.1, n1, ← HI.out.1] at g1
        rw [HI.out.2.1, n2, ← HI.out.2.1] at g2
        clear n1 n2 hp hq ev ef el eb hpl hqf
        have HA := Lib.hid (And.intro hA hQ)
        clear hA hQ
        have hiL : (i : Int) + 2 ≤ Lc := by have := HI.out; have := HA.out; omega
        go_wp2
        go_quiet (fail)
        go_wp2
        go_roundw
        case rel => exact ⟨i + 1, run (pos + i + 1), run (pos - 1 - i - 1), _, rfl, rfl, by go_num, drew2 w _ _, by have := HI.out; have := HA.out; exact ⟨by rw [Nat.add_assoc], by first | rfl | (congr 1; omega), by omega, by omega⟩⟩
        case measure => simp [intOf]; omega
end Go.Proofs.Qxb6623286a
