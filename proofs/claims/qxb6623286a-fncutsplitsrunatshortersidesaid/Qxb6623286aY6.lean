import Derived.Test.Qxb6623286aY5
namespace Go.Proofs.Qxb6623286a
open Go.RowKit

theorem CRow.congr {w : World} {C cap nc : Nat} {F L F2 L2 : Nat → Int} {N N2 : Nat → Value} (h : CRow w C cap nc F L N) (e : ∀ k, k < nc → F k = F2 k ∧ L k = L2 k ∧ N k = N2 k) : CRow w C cap nc F2 L2 N2 := by
  obtain ⟨h0, f, hr, hf⟩ := h
  refine ⟨h0, f, hr, fun k hk => ?_⟩
  obtain ⟨e0, e1, e2⟩ := e k hk
  obtain ⟨f0, f1, f2⟩ := hf k hk
  exact ⟨by rw [f0, e0], by rw [f1, e1], by rw [f2, e2]⟩

/-- what ZZCut leaves -/
structure ZDone (w w' w4 w5 : World) (n nc : Nat) (sv : Value) (cl : Int) (mc ms F L : Nat → Int) (N : Nat → Value) (B ns : Nat) (sp : Nat → Int) (ln : Nat → Nat) (nd : Nat → Nat → Int) (gb : Nat → Nat) (thr rev : Nat → Int) (tb rb Lc c0 pos : Nat) (run : Nat → Nat)
    (S M C C' nc' cap' : Nat) (sv' : Value) (cl' : Int) (mc' ms' F' L' : Nat → Int) (N' : Nat → Value) (v1 v2 v3 v4 v5 : Value) : Prop where
  b4 : Below w.heap.size w w4
  pre : Pre w4 S M C n nc sv cl mc ms F L N B ns sp ln nd gb thr rev tb rb Lc c0 run
  cut : CutR w4 w5 S M C n nc (.slice (some ⟨tb, 0, none⟩) n n) (.slice (some ⟨rb, 0, none⟩) n n) sv cl mc ms F L N B ns sp gb Lc c0 pos run nc' C' cap' sv' cl' mc' ms' F' L' N'
  b5 : Below w5.heap.size w5 w'
  r1 : I32 w' v1 n mc'
  r2 : I32 w' v2 n ms'
  r3 : I32 w' v3 nc' F'
  r4 : I32 w' v4 nc' L'
  r5 : RwS w' v5 nc' N'

theorem cutR_slice {w w' : World} {S M C n nc : Nat} {tv rv sv : Value} {cl : Int} {mc ms F L : Nat → Int} {N : Nat → Value} {B ns : Nat} {sp : Nat → Int} {ln : Nat → Nat} {nd : Nat → Nat → Int} {gb : Nat → Nat} {thr rev : Nat → Int} {tb rb Lc c0 pos : Nat} {run : Nat → Nat} {nc' C' cap' : Nat} {sv' : Value} {cl' : Int} {mc' ms' F' L' : Nat → Int} {N' : Nat → Value}
    (h : Pre w S M C n nc sv cl mc ms F L N B ns sp ln nd gb thr rev tb rb Lc c0 run) (hc : CutR w w' S M C n nc tv rv sv cl mc ms F L N B ns sp gb Lc c0 pos run nc' C' cap' sv' cl' mc' ms' F' L' N') (m : Nat) (hm : m < nc') : ∃ a l c, N' m = .slice a l c := by
  have hN : ∀ k, k < nc → ∃ a l c, N k = .slice a l c := fun k hk => by
    rcases h.lists.row k hk with ⟨_, e⟩ | ⟨e, _⟩
    · exact ⟨_, _, _, e⟩
    · exact ⟨_, _, _, e⟩
  cases hc with
  | first q h0 hw => exact hN m hm
  | done s0 k d _ _ _ _ _ _ _ _ lst' _ h0 hd =>
    by_cases e1 : m = d
    · subst e1
      rcases hd.own.2 with ⟨e, _⟩ | ⟨g, cp, cur, e, _⟩
      · exact ⟨_, _, _, e⟩
      · exact ⟨_, _, _, e⟩
    · by_cases e2 : m = c0
      · subst e2; exact ⟨_, _, _, hd.n0⟩
      · have hmn : m < nc := by
          by_cases e : ns = 0
          · have := hd.dd.1 e; omega
          · have := (hd.dd.2 (by omega)).2.2; omega
        obtain ⟨a, l, c, e⟩ := hN m hmn
        exact ⟨a, l, c, by rw [(hd.keep m hmn e1 e2).2.2, e]⟩

set_option maxRecDepth 100000 in
set_option maxHeartbeats 4000000 in
theorem zzcut_any (w : World) (n nc : Nat) (sv : Value) (cl : Int) (mc ms F L : Nat → Int) (N : Nat → Value) (B ns : Nat) (sp : Nat → Int) (ln : Nat → Nat) (nd : Nat → Nat → Int) (gb : Nat → Nat) (thr rev : Nat → Int) (tb rb mb sb fb lb Y Lc c0 pos : Nat) (run : Nat → Nat)
    (h : ZPre w n nc sv mc ms F L N B ns sp ln nd gb thr rev tb rb mb sb fb lb Y Lc c0 run) (hpL : pos < Lc) :
    Calls Try.prog 7 #[.slice (some ⟨tb, 0, none⟩) n n, .slice (some ⟨rb, 0, none⟩) n n, .slice (some ⟨mb, 0, none⟩) n n, .slice (some ⟨sb, 0, none⟩) n n, .slice (some ⟨fb, 0, none⟩) nc nc, .slice (some ⟨lb, 0, none⟩) nc nc, .slice (some ⟨Y, 0, none⟩) nc nc, sv, .int .i64 cl, .int .i32 (run pos : Nat)] w fun e w' => ∃ v1 v2 v3 v4 v5 sv' cl', e = .returned (.tuple #[v1, v2, v3, v4, v5, sv', .int .i64 cl']) ∧ ∃ w4 w5 S M C C' nc' cap' mc' ms' F' L' N',
      ZDone w w' w4 w5 n nc sv cl mc ms F L N B ns sp ln nd gb thr rev tb rb Lc c0 pos run S M C C' nc' cap' sv' cl' mc' ms' F' L' N' v1 v2 v3 v4 v5 := by
  obtain ⟨sa, scp, rfl⟩ : ∃ a cp, sv = .slice a ns cp := by
    by_cases h0 : ns = 0
    · obtain ⟨a, cp, e⟩ := h.spare.nil h0; exact ⟨a, cp, by rw [e, h0]⟩
    · obtain ⟨b, cp, e, _⟩ := h.spare.row (by omega); exact ⟨_, _, e⟩
  have HH := Lib.hid h
  have hn : (n : Int) ≤ 65536 := by have := h.small; omega
  have hnc : (nc : Int) ≤ 65536 := by have := h.small; omega
  have mk1 := fun wx => make_rows wx 34 42 (.agg #[.int .i32 0, .int .i32 0]) 2 8 n Try.underlying34 Try.info42 (by omega) (by omega)
  have mk2 := fun wx => make_rows wx 35 44 (.agg #[.int .i32 0, .int .i32 0, .slice none 0 0]) 3 32 nc Try.underlying35 Try.info44 (by omega) (by omega)
  clear h
  obtain ⟨v, hv⟩ : ∃ v, v = run pos := ⟨_, rfl⟩
  have HV := Lib.hid hv
  rw [← hv]
  clear hv
  go_enter Try.func7, Try.ntmps7
  go_wp2
  go_loopw [54] (fun zi wr => ∃ i : Nat, zi = .int .i64 i ∧ (i : Int) ≤ n ∧ Hid (Below w.heap.size w wr ∧ w.heap.size + 2 ≤ wr.heap.size ∧ Sx wr w.heap.size (.slice (some ⟨tb, 0, none⟩) n n) (.slice (some ⟨rb, 0, none⟩) n n) (.slice (some ⟨w.heap.size + 1, 0, none⟩) n n) (.slice none 0 0) (.slice sa ns scp) cl ∧ MRow wr (w.heap.size + 1) n (trunc i mc) (trunc i ms))) (fun zi _ => n - (intOf zi).toNat)
  case atStart =>
    refine ⟨0, rfl, by omega, ((Below.refl _ _).alloc (Nat.le_refl _) _).alloc (by simp) _, by simp, sx_start w _ _ _ _ cl _, ?_⟩
    rw [trunc_zero mc, trunc_zero ms]
    exact made2' w _ n
  case round =>
    obtain ⟨i, rfl, hi, HR⟩ := hrel
    obtain ⟨-, -, s11, -, -, -⟩ := HR.out.2.2.1.cell
    by_cases hlt : i < n
    · have b0 : (i : Int) < n := by omega
      have g1 : wr.cell? ⟨mb, i, none⟩ = some (.int .i32 (mc i)) := by rw [HR.out.1.cell (p := ⟨mb, i, none⟩) HH.out.mrow.lt]; exact HH.out.mrow.cell hlt
      have g2 : wr.cell? ⟨sb, i, none⟩ = some (.int .i32 (ms i)) := by rw [HR.out.1.cell (p := ⟨sb, i, none⟩) HH.out.srow.lt]; exact HH.out.srow.cell hlt
      obtain ⟨m0, m1⟩ := HR.out.2.2.2.cell hlt
      have f0 := World.rowIs.frozen HR.out.2.2.2 (i * 2)
      have f1 := World.rowIs.frozen HR.out.2.2.2 (i * 2 + 1)
      go_wp2
      go_region
      obtain ⟨w2, hw2⟩ : ∃ w2, w2 = ((wr.setCell ⟨w.heap.size + 1, i * 2, none⟩ (.int .i32 (mc i))).setCell ⟨w.heap.size + 1, i * 2 + 1, none⟩ (.int .i32 (ms i))).drew := ⟨_, rfl⟩
      have HF : Hid (Below w.heap.size w w2 ∧ w.heap.size + 2 ≤ w2.heap.size ∧ Sx w2 w.heap.size (.slice (some ⟨tb, 0, none⟩) n n) (.slice (some ⟨rb, 0, none⟩) n n) (.slice (some ⟨w.heap.size + 1, 0, none⟩) n n) (.slice none 0 0) (.slice sa ns scp) cl ∧ MRow w2 (w.heap.size + 1) n (trunc (i + 1) mc) (trunc (i + 1) ms)) := by
        rw [hw2, ← upd_trunc, ← upd_trunc]
        refine ⟨((HR.out.1.setCell (p := ⟨w.heap.size + 1, i * 2, none⟩) (by simp) _).setCell (p := ⟨w.heap.size + 1, i * 2 + 1, none⟩) (by simp) _).drew, ?_, ?_, (HR.out.2.2.2.setC i (mc i)).setS i (ms i)⟩
        · have := HR.out.2.1
          simp [World.setCell]; exact this
        · exact (HR.out.2.2.1.other (a := ⟨w.heap.size + 1, i * 2, none⟩) (by simp) _).other (a := ⟨w.heap.size + 1, i * 2 + 1, none⟩) (by simp) _
      rw [← hw2]
      clear hw2 s11 g1 g2 m0 m1 f0 f1
      go_wp2
      go_roundw
      case rel => exact ⟨i + 1, by go_num, by omega, HF⟩
      case measure => simp [intOf]; omega
    · have e0 : i = n := by omega
      subst e0
      obtain ⟨w1, hw1⟩ : ∃ w1, w1 = wr := ⟨_, rfl⟩
      subst hw1
      obtain ⟨-, -, -, s12, -, -⟩ := HR.out.2.2.1.cell
      have f12 := HR.out.2.2.1.frozen 12
      have hSl : w.heap.size < w1.heap.size := by have := HR.out.2.1; omega
      have HM1 : Hid (MRow w1 (w.heap.size + 1) i mc ms) := World.rowIs.congr HR.out.2.2.2 (fun j hj => by
        have : j / 2 < i := by omega
        simp [trunc, this])
      have HS1 := Lib.hid HR.out.2.2.1
      have HB1 := Lib.hid (And.intro HR.out.1 HR.out.2.1)
      clear HR mk1 hlt
      go_wp2
      go_loopw [84] (fun zi wr => ∃ k : Nat, zi = .int .i64 k ∧ (k : Int) ≤ nc ∧ Hid (Below w.heap.size w wr ∧ w1.heap.size < wr.heap.size ∧ Sx wr w.heap.size (.slice (some ⟨tb, 0, none⟩) i i) (.slice (some ⟨rb, 0, none⟩) i i) (.slice (some ⟨w.heap.size + 1, 0, none⟩) i i) (.slice (some ⟨w1.heap.size, 0, none⟩) nc nc) (.slice sa ns scp) cl ∧ MRow wr (w.heap.size + 1) i mc ms ∧ CRow wr w1.heap.size nc nc (trunc k F) (trunc k L) (truncV k N))) (fun zi _ => nc - (intOf zi).toNat)
      case atStart =>
        have es : (w1.setCell ⟨w.heap.size, 12, none⟩ (.slice (some ⟨w1.heap.size, 0, none⟩) nc nc)).heap.size = w1.heap.size := by simp [World.setCell]
        have hb1 := HB1.out.1
        refine ⟨0, rfl, by omega, (hb1.setCell (p := ⟨w.heap.size, 12, none⟩) (Nat.le_refl _) _).alloc (by rw [es]; omega) _, by simp [es], ?_, ?_, ?_⟩
        · obtain ⟨f, hr, hf⟩ := HS1.out.setChunks (.slice (some ⟨w1.heap.size, 0, none⟩) nc nc)
          exact ⟨f, hr.alloc _, hf⟩
        · exact World.rowIs.alloc (World.rowIs.setOther HM1.out (a := ⟨w.heap.size, 12, none⟩) (by simp) _) _
        · rw [trunc_zero F, trunc_zero L, truncV_zero N]
          have := made3 (w1.setCell ⟨w.heap.size, 12, none⟩ (.slice (some ⟨w1.heap.size, 0, none⟩) nc nc)) nc
          rw [es] at this
          exact this
      case round =>
        obtain ⟨k, rfl, hk, HR⟩ := hrel
        obtain ⟨-, -, -, s12, -, -⟩ := HR.out.2.2.1.cell
        by_cases hlt : k < nc
        · have b0 : (k : Int) < nc := by omega
          have g1 : wr.cell? ⟨fb, k, none⟩ = some (.int .i32 (F k)) := by rw [HR.out.1.cell (p := ⟨fb, k, none⟩) HH.out.frow.lt]; exact HH.out.frow.cell hlt
          have g2 : wr.cell? ⟨lb, k, none⟩ = some (.int .i32 (L k)) := by rw [HR.out.1.cell (p := ⟨lb, k, none⟩) HH.out.lrow.lt]; exact HH.out.lrow.cell hlt
          have g3 : wr.cell? ⟨Y, k, none⟩ = some (N k) := by rw [HR.out.1.cell (p := ⟨Y, k, none⟩) HH.out.nrow.lt]; exact HH.out.nrow.cell hlt
          obtain ⟨na, nl, ncp, hN⟩ : ∃ a l c, N k = .slice a l c := by
            rcases HH.out.lists.row k hlt with ⟨_, e⟩ | ⟨e, _⟩
            · exact ⟨_, _, _, e⟩
            · exact ⟨_, _, _, e⟩
          rw [hN] at g3
          have HN := Lib.hid hN
          obtain ⟨m0, m1, m2⟩ := HR.out.2.2.2.2.cell hlt
          have f0 := HR.out.2.2.2.2.frozen (k * 3)
          have f1 := HR.out.2.2.2.2.frozen (k * 3 + 1)
          have f2 := HR.out.2.2.2.2.frozen (k * 3 + 2)
          clear hN mk2
          go_wp2
          go_region
          obtain ⟨w2, hw2⟩ : ∃ w2, w2 = (((wr.setCell ⟨w1.heap.size, k * 3, none⟩ (.int .i32 (F k))).setCell ⟨w1.heap.size, k * 3 + 1, none⟩ (.int .i32 (L k))).setCell ⟨w1.heap.size, k * 3 + 2, none⟩ (.slice na nl ncp)).drew := ⟨_, rfl⟩
          have HF : Hid (Below w.heap.size w w2 ∧ w1.heap.size < w2.heap.size ∧ Sx w2 w.heap.size (.slice (some ⟨tb, 0, none⟩) i i) (.slice (some ⟨rb, 0, none⟩) i i) (.slice (some ⟨w.heap.size + 1, 0, none⟩) i i) (.slice (some ⟨w1.heap.size, 0, none⟩) nc nc) (.slice sa ns scp) cl ∧ MRow w2 (w.heap.size + 1) i mc ms ∧ CRow w2 w1.heap.size nc nc (trunc (k + 1) F) (trunc (k + 1) L) (truncV (k + 1) N)) := by
            have hs1 : w.heap.size ≤ w1.heap.size := by omega
            have hs2 : w.heap.size + 1 ≠ w1.heap.size := by have := HB1.out.2; omega
            rw [hw2, ← upd_trunc, ← upd_trunc, ← upd_truncV, HN.out]
            refine ⟨(((HR.out.1.setCell (p := ⟨w1.heap.size, k * 3, none⟩) hs1 _).setCell (p := ⟨w1.heap.size, k * 3 + 1, none⟩) hs1 _).setCell (p := ⟨w1.heap.size, k * 3 + 2, none⟩) hs1 _).drew, ?_, ?_, ?_, ((HR.out.2.2.2.2.setF k (F k)).setL k (L k)).setN k _⟩
            · have := HR.out.2.1
              simp [World.setCell]; exact this
            · exact ((HR.out.2.2.1.other (a := ⟨w1.heap.size, k * 3, none⟩) (by simp; omega) _).other (a := ⟨w1.heap.size, k * 3 + 1, none⟩) (by simp; omega) _).other (a := ⟨w1.heap.size, k * 3 + 2, none⟩) (by simp; omega) _
            · exact World.rowIs.setOther (World.rowIs.setOther (World.rowIs.setOther HR.out.2.2.2.1 (a := ⟨w1.heap.size, k * 3, none⟩) hs2 _) (a := ⟨w1.heap.size, k * 3 + 1, none⟩) hs2 _) (a := ⟨w1.heap.size, k * 3 + 2, none⟩) hs2 _
          rw [← hw2]
          clear hw2 s12 g1 g2 g3 m0 m1 m2 f0 f1 f2
          go_wp2
          go_roundw
          case rel => exact ⟨k + 1, by go_num, by omega, HF⟩
          case measure => simp [intOf]; omega
        · have e0 : k = nc := by omega
          subst e0
          obtain ⟨w4, hw4⟩ : ∃ w4, w4 = wr := ⟨_, rfl⟩
          subst hw4
          have HPre : Hid (Pre w4 w.heap.size (w.heap.size + 1) w1.heap.size i k (.slice sa ns scp) cl mc ms F L N B ns sp ln nd gb thr rev tb rb Lc c0 run) := by
            have hb := HR.out.1
            have hz := HH.out.above
            refine ⟨⟨HR.out.2.2.1, HR.out.2.2.2.1, HR.out.2.2.2.2.congr (fun j hj => by simp [trunc, truncV, hj])⟩, HH.out.lists.keep (fun b nn f hr => hb.block b hr.lt), HH.out.spare.keep (fun b _ hb2 => hb.block b hb2), HH.out.trow.of_block (hb.block _ HH.out.trow.lt), HH.out.rrow.of_block (hb.block _ HH.out.rrow.lt), HH.out.tbB, HH.out.rn, HH.out.len, HH.out.hc0, HH.out.hLc, HH.out.sp0, ⟨hz, by omega, by omega, Nat.le_trans hz hb.size⟩, HH.out.small⟩
          have HB4 := Lib.hid HR.out.1
          clear HR s12 f12 HM1 HS1 HB1 hSl hlt
          go_wp2_with fail
          rw [HV.out]
          refine (cut_any w4 w.heap.size (w.heap.size + 1) w1.heap.size i k (.slice sa ns scp) cl mc ms F L N B ns sp ln nd gb thr rev tb rb Lc c0 pos run HPre.out hpL).mono ?_
          rintro e w5 ⟨rfl, nc', C', cap', sv', cl', mc', ms', F', L', N', hR, hst, hnc'⟩
          have HCR := Lib.hid hR
          have HST := Lib.hid hst
          have hnc2 : (nc' : Int) ≤ 65537 := by omega
          have mk3 := fun wx => run_make_row' (P := Try.prog) 22 21 (.int .i32 0) 4 Try.underlying22 Try.info21 rfl .i64 .i64 i (by omega) (by omega) wx
          have mk4 := fun wx => run_make_row' (P := Try.prog) 22 21 (.int .i32 0) 4 Try.underlying22 Try.info21 rfl .i64 .i64 nc' (by omega) (by omega) wx
          have mk5 := fun wx => run_make_row' (P := Try.prog) 23 22 (.slice none 0 0) 24 Try.underlying23 Try.info22 rfl .i64 .i64 nc' (by omega) (by omega) wx
          obtain ⟨-, -, s11, s12, s13, s14⟩ := hst.s.cell
          have hSlt : w.heap.size < w5.heap.size := by obtain ⟨f, hr⟩ := hst.s.row; exact hr.lt
          clear hR hst hnc' mk2
          go_wp2
          go_loopw [127] (fun zj wr => ∃ j : Nat, zj = .int .i64 j ∧ (j : Int) ≤ i ∧ Hid (Below w5.heap.size w5 wr ∧ w5.heap.size + 2 ≤ wr.heap.size ∧ wr.rowIs w5.heap.size 21 i (fun t => .int .i32 (trunc j mc' t)) ∧ wr.rowIs (w5.heap.size + 1) 21 i (fun t => .int .i32 (trunc j ms' t)))) (fun zj _ => i - (intOf zj).toNat)
          case atStart =>
            refine ⟨0, rfl, by omega, ((Below.refl _ _).alloc (Nat.le_refl _) _).alloc (by simp) _, by simp, ?_, ?_⟩
            · exact ((World.rowIs_made w5 (.int .i32 0) i 21).alloc _).congr (fun t _ => by simp [trunc])
            · have h := World.rowIs_made (w5.alloc (.cells (madeCells #[.int .i32 0] i) 21)) (.int .i32 0) i 21
              have e : (w5.alloc (.cells (madeCells #[.int .i32 0] i) 21)).heap.size = w5.heap.size + 1 := by simp
              rw [e] at h
              exact h.congr (fun t _ => by simp [trunc])
          case round =>
            obtain ⟨j, rfl, hj, HR⟩ := hrel
            have t11 : wr.cell? ⟨w.heap.size, 11, none⟩ = some (.slice (some ⟨w.heap.size + 1, 0, none⟩) i i) := by rw [HR.out.1.cell (p := ⟨w.heap.size, 11, none⟩) hSlt]; exact s11
            by_cases hlt : j < i
            · have b0 : (j : Int) < i := by omega
              obtain ⟨m0, m1⟩ := HST.out.m.cell hlt
              have hMl : w.heap.size + 1 < w5.heap.size := World.rowIs.lt HST.out.m
              have g0 : wr.cell? ⟨w.heap.size + 1, j * 2, none⟩ = some (.int .i32 (mc' j)) := by rw [HR.out.1.cell (p := ⟨w.heap.size + 1, j * 2, none⟩) hMl]; exact m0
              have g1 : wr.cell? ⟨w.heap.size + 1, j * 2 + 1, none⟩ = some (.int .i32 (ms' j)) := by rw [HR.out.1.cell (p := ⟨w.heap.size + 1, j * 2 + 1, none⟩) hMl]; exact m1
              have p0 := HR.out.2.2.1.cell hlt
              have p1 := HR.out.2.2.2.cell hlt
              have q0 := HR.out.2.2.1.frozen j
              have q1 := HR.out.2.2.2.frozen j
              obtain ⟨w6, hw6⟩ : ∃ w6, w6 = (wr.setCell ⟨w5.heap.size, j, none⟩ (.int .i32 (mc' j))).setCell ⟨w5.heap.size + 1, j, none⟩ (.int .i32 (ms' j)) := ⟨_, rfl⟩
              have HF : Hid (Below w5.heap.size w5 w6 ∧ w5.heap.size + 2 ≤ w6.heap.size ∧ w6.rowIs w5.heap.size 21 i (fun t => .int .i32 (trunc (j + 1) mc' t)) ∧ w6.rowIs (w5.heap.size + 1) 21 i (fun t => .int .i32 (trunc (j + 1) ms' t))) := by
                rw [hw6, ← upd_trunc, ← upd_trunc]
                refine ⟨(HR.out.1.setCell (p := ⟨w5.heap.size, j, none⟩) (Nat.le_refl _) _).setCell (p := ⟨w5.heap.size + 1, j, none⟩) (by simp) _, ?_, ?_, ?_⟩
                · have := HR.out.2.1; simp [World.setCell]; exact this
                · refine ((HR.out.2.2.1.set j (.int .i32 (mc' j))).setOther (a := ⟨w5.heap.size + 1, j, none⟩) (by simp) _).congr (fun t _ => ?_)
                  unfold upd; split <;> rfl
                · refine ((HR.out.2.2.2.setOther (a := ⟨w5.heap.size, j, none⟩) (by simp) _).set j (.int .i32 (ms' j))).congr (fun t _ => ?_)
                  unfold upd; split <;> rfl
              have HW6 := Lib.hid hw6
              clear m0 m1 hw6
              go_wp2
              go_roundw
              case rel => exact ⟨j + 1, by go_num, by omega, by have := HF.out; rw [HW6.out] at this; exact this⟩
              case measure => simp [intOf]; omega
            · have e0 : j = i := by omega
              subst e0
              obtain ⟨w7, hw7⟩ : ∃ w7, w7 = wr := ⟨_, rfl⟩
              subst hw7
              have HB7 := Lib.hid (And.intro HR.out.1 HR.out.2.1)
              have HR1 : Hid (w7.rowIs w5.heap.size 21 j (fun t => .int .i32 (mc' t))) := HR.out.2.2.1.congr (fun t ht => by simp [trunc, ht])
              have HR2 : Hid (w7.rowIs (w5.heap.size + 1) 21 j (fun t => .int .i32 (ms' t))) := HR.out.2.2.2.congr (fun t ht => by simp [trunc, ht])
              have t12 : w7.cell? ⟨w.heap.size, 12, none⟩ = some (.slice (some ⟨C', 0, none⟩) nc' cap') := by rw [HR.out.1.cell (p := ⟨w.heap.size, 12, none⟩) hSlt]; exact s12
              have hS7 : w.heap.size < w7.heap.size := by have := HR.out.2.1; omega
              have hal : ∀ a b c : Obj, (((w7.alloc a).alloc b).alloc c).cell? ⟨w.heap.size, 12, none⟩ = some (.slice (some ⟨C', 0, none⟩) nc' cap') := fun a b c => by
                rw [World.cell?_alloc_past _ _ _ (by simp <;> omega), World.cell?_alloc_past _ _ _ (by simp <;> omega), World.cell?_alloc_past _ _ _ hS7]; exact t12
              clear HR hlt t11
              go_wp2
              go_loopw [176] (fun zj wr => ∃ m : Nat, zj = .int .i64 m ∧ (m : Int) ≤ nc' ∧ Hid (Below w7.heap.size w7 wr ∧ w7.heap.size + 3 ≤ wr.heap.size ∧ wr.rowIs w7.heap.size 21 nc' (fun t => .int .i32 (trunc m F' t)) ∧ wr.rowIs (w7.heap.size + 1) 21 nc' (fun t => .int .i32 (trunc m L' t)) ∧ wr.rowIs (w7.heap.size + 2) 22 nc' (truncV m N'))) (fun zj _ => nc' - (intOf zj).toNat)
              case atStart =>
                refine ⟨0, rfl, by omega, (((Below.refl _ _).alloc (Nat.le_refl _) _).alloc (by simp) _).alloc (by simp <;> omega) _, by simp, ?_, ?_, ?_⟩
                · exact (((World.rowIs_made w7 (.int .i32 0) nc' 21).alloc _).alloc _).congr (fun t _ => by simp [trunc])
                · have h := World.rowIs_made (w7.alloc (.cells (madeCells #[.int .i32 0] nc') 21)) (.int .i32 0) nc' 21
                  have e : (w7.alloc (.cells (madeCells #[.int .i32 0] nc') 21)).heap.size = w7.heap.size + 1 := by simp
                  rw [e] at h
                  exact (h.alloc _).congr (fun t _ => by simp [trunc])
                · have h := World.rowIs_made ((w7.alloc (.cells (madeCells #[.int .i32 0] nc') 21)).alloc (.cells (madeCells #[.int .i32 0] nc') 21)) (.slice none 0 0) nc' 22
                  have e : ((w7.alloc (.cells (madeCells #[.int .i32 0] nc') 21)).alloc (.cells (madeCells #[.int .i32 0] nc') 21)).heap.size = w7.heap.size + 2 := by simp
                  rw [e] at h
                  exact h.congr (fun t _ => by simp [truncV])
              case round =>
                obtain ⟨m, rfl, hm, HR⟩ := hrel
                have u12 : wr.cell? ⟨w.heap.size, 12, none⟩ = some (.slice (some ⟨C', 0, none⟩) nc' cap') := by rw [HR.out.1.cell (p := ⟨w.heap.size, 12, none⟩) hS7]; exact t12
                have hb5 : Below w5.heap.size w5 wr := HB7.out.1.trans (HR.out.1.mono HB7.out.1.size)
                have HB5 := Lib.hid hb5
                clear hb5
                by_cases hlt : m < nc'
                · have b0 : (m : Int) < nc' := by omega
                  obtain ⟨c0', c1', c2'⟩ := HST.out.ch.cell hlt
                  have hCl : C' < w5.heap.size := HST.out.ch.lt
                  have g0 : wr.cell? ⟨C', m * 3, none⟩ = some (.int .i32 (F' m)) := by rw [HB5.out.cell (p := ⟨C', m * 3, none⟩) hCl]; exact c0'
                  have g1 : wr.cell? ⟨C', m * 3 + 1, none⟩ = some (.int .i32 (L' m)) := by rw [HB5.out.cell (p := ⟨C', m * 3 + 1, none⟩) hCl]; exact c1'
                  have g2 : wr.cell? ⟨C', m * 3 + 2, none⟩ = some (N' m) := by rw [HB5.out.cell (p := ⟨C', m * 3 + 2, none⟩) hCl]; exact c2'
                  obtain ⟨na, nl, ncp, hN⟩ := cutR_slice HPre.out HCR.out m hlt
                  rw [hN] at g2
                  have HN := Lib.hid hN
                  have p0 := HR.out.2.2.1.cell hlt
                  have p1 := HR.out.2.2.2.1.cell hlt
                  have p2 := HR.out.2.2.2.2.cell hlt
                  have q0 := HR.out.2.2.1.frozen m
                  have q1 := HR.out.2.2.2.1.frozen m
                  have q2 := HR.out.2.2.2.2.frozen m
                  have hC3 : C' < w7.heap.size := by have := HB7.out.2; omega
                  have HF : Hid (Below w7.heap.size w7 (((wr.setCell ⟨w7.heap.size, m, none⟩ (.int .i32 (F' m))).setCell ⟨w7.heap.size + 1, m, none⟩ (.int .i32 (L' m))).setCell ⟨w7.heap.size + 2, m, none⟩ (.slice na nl ncp)) ∧ w7.heap.size + 3 ≤ (((wr.setCell ⟨w7.heap.size, m, none⟩ (.int .i32 (F' m))).setCell ⟨w7.heap.size + 1, m, none⟩ (.int .i32 (L' m))).setCell ⟨w7.heap.size + 2, m, none⟩ (.slice na nl ncp)).heap.size ∧
                      (((wr.setCell ⟨w7.heap.size, m, none⟩ (.int .i32 (F' m))).setCell ⟨w7.heap.size + 1, m, none⟩ (.int .i32 (L' m))).setCell ⟨w7.heap.size + 2, m, none⟩ (.slice na nl ncp)).rowIs w7.heap.size 21 nc' (fun t => .int .i32 (trunc (m + 1) F' t)) ∧ (((wr.setCell ⟨w7.heap.size, m, none⟩ (.int .i32 (F' m))).setCell ⟨w7.heap.size + 1, m, none⟩ (.int .i32 (L' m))).setCell ⟨w7.heap.size + 2, m, none⟩ (.slice na nl ncp)).rowIs (w7.heap.size + 1) 21 nc' (fun t => .int .i32 (trunc (m + 1) L' t)) ∧ (((wr.setCell ⟨w7.heap.size, m, none⟩ (.int .i32 (F' m))).setCell ⟨w7.heap.size + 1, m, none⟩ (.int .i32 (L' m))).setCell ⟨w7.heap.size + 2, m, none⟩ (.slice na nl ncp)).rowIs (w7.heap.size + 2) 22 nc' (truncV (m + 1) N')) := by
                    rw [← upd_trunc, ← upd_trunc, ← upd_truncV, HN.out]
                    refine ⟨((HR.out.1.setCell (p := ⟨w7.heap.size, m, none⟩) (Nat.le_refl _) _).setCell (p := ⟨w7.heap.size + 1, m, none⟩) (by simp) _).setCell (p := ⟨w7.heap.size + 2, m, none⟩) (by simp) _, ?_, ?_, ?_, ?_⟩
                    · have := HR.out.2.1; simp [World.setCell]; exact this
                    · refine (((HR.out.2.2.1.set m (.int .i32 (F' m))).setOther (a := ⟨w7.heap.size + 1, m, none⟩) (by simp) _).setOther (a := ⟨w7.heap.size + 2, m, none⟩) (by simp) _).congr (fun t _ => ?_)
                      unfold upd; split <;> rfl
                    · refine (((HR.out.2.2.2.1.setOther (a := ⟨w7.heap.size, m, none⟩) (by simp) _).set m (.int .i32 (L' m))).setOther (a := ⟨w7.heap.size + 2, m, none⟩) (by simp) _).congr (fun t _ => ?_)
                      unfold upd; split <;> rfl
                    · refine (((HR.out.2.2.2.2.setOther (a := ⟨w7.heap.size, m, none⟩) (by simp) _).setOther (a := ⟨w7.heap.size + 1, m, none⟩) (by simp) _).set m (.slice na nl ncp)).congr (fun t _ => ?_)
                      unfold upd; split <;> rfl
                  clear c0' c1' c2' hN
                  go_wp2
                  go_roundw
                  case rel => exact ⟨m + 1, by go_num, by omega, HF⟩
                  case measure => simp [intOf]; omega
                · have e0 : m = nc' := by omega
                  subst e0
                  have u13 : wr.cell? ⟨w.heap.size, 13, none⟩ = some sv' := by rw [HB5.out.cell (p := ⟨w.heap.size, 13, none⟩) hSlt]; exact s13
                  have u14 : wr.cell? ⟨w.heap.size, 14, none⟩ = some (.int .i64 cl') := by rw [HB5.out.cell (p := ⟨w.heap.size, 14, none⟩) hSlt]; exact s14
                  have HFin : Hid (∀ q, ZDone w (wr.drewN q) w4 w5 j k (.slice sa ns scp) cl mc ms F L N B ns sp ln nd gb thr rev tb rb Lc c0 pos run w.heap.size (w.heap.size + 1) w1.heap.size C' m cap' sv' cl' mc' ms' F' L' N' (.slice (some ⟨w5.heap.size, 0, none⟩) j j) (.slice (some ⟨w5.heap.size + 1, 0, none⟩) j j) (.slice (some ⟨w7.heap.size, 0, none⟩) m m) (.slice (some ⟨w7.heap.size + 1, 0, none⟩) m m) (.slice (some ⟨w7.heap.size + 2, 0, none⟩) m m)) := fun q => by
                    have hr1 : wr.rowIs w5.heap.size 21 j (fun t => .int .i32 (mc' t)) := HR1.out.of_block (HR.out.1.block _ (by have := HB7.out.2; omega))
                    have hr2 : wr.rowIs (w5.heap.size + 1) 21 j (fun t => .int .i32 (ms' t)) := HR2.out.of_block (HR.out.1.block _ (by have := HB7.out.2; omega))
                    have hr3 := HR.out.2.2.1
                    have hr4 := HR.out.2.2.2.1
                    have hr5 := HR.out.2.2.2.2
                    refine ⟨HB4.out, HPre.out, HCR.out, ⟨HB5.out.os, HB5.out.tape, HB5.out.output, HB5.out.size, HB5.out.block⟩, ⟨_, _, rfl, fun _ => ⟨_, _, rfl, hr1.lt, fun t ht => by rw [Nat.zero_add]; exact hr1.cell ht⟩⟩, ⟨_, _, rfl, fun _ => ⟨_, _, rfl, hr2.lt, fun t ht => by rw [Nat.zero_add]; exact hr2.cell ht⟩⟩,
                      ⟨_, _, rfl, fun _ => ⟨_, _, rfl, hr3.lt, fun t ht => ?_⟩⟩, ⟨_, _, rfl, fun _ => ⟨_, _, rfl, hr4.lt, fun t ht => ?_⟩⟩, ⟨_, _, rfl, fun _ => ⟨_, _, rfl, hr5.lt, fun t ht => ?_⟩⟩⟩
                    · rw [Nat.zero_add]; have := hr3.cell ht; simp only [trunc, if_pos ht] at this; exact this
                    · rw [Nat.zero_add]; have := hr4.cell ht; simp only [trunc, if_pos ht] at this; exact this
                    · rw [Nat.zero_add]; have := hr5.cell ht; simp only [truncV, if_pos ht] at this; exact this
                  clear HR hlt u12 s11 s12 s13 s14 t12 hal mk3 mk4 mk5
                  go_wp2
                  go_quiet (fail)
                  go_wp2
                  exact bodyPost_ret (v := .tuple #[.slice (some ⟨w5.heap.size, 0, none⟩) j j, .slice (some ⟨w5.heap.size + 1, 0, none⟩) j j, .slice (some ⟨w7.heap.size, 0, none⟩) m m, .slice (some ⟨w7.heap.size + 1, 0, none⟩) m m, .slice (some ⟨w7.heap.size + 2, 0, none⟩) m m, sv', .int .i64 cl']) (by simp [results, Try.results7, go_sem]) rfl ⟨_, _, _, _, _, _, _, rfl, _, _, _, _, _, _, _, _, _, _, _, _, _, HFin.out _⟩
end Go.Proofs.Qxb6623286a
