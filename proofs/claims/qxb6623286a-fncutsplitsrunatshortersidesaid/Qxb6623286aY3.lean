import Derived.Test.Qxb6623286aY2
namespace Go.Proofs.Qxb6623286a
open Go.RowKit

set_option maxRecDepth 100000 in
set_option maxHeartbeats 2000000 in
theorem clone_any (w : World) (b o nc cap : Nat) (r : Nat → Value) (ln : Nat → Nat) (nd : Nat → Nat → Int) (hb : b < w.heap.size) (hc : ∀ k, k < nc → w.cell? ⟨b, o + k, none⟩ = some (r k)) (hr : ∀ k, k < nc → RowIn w (r k) (ln k) (nd k) ∧ ln k ≤ 1048576) (hn : (nc : Int) ≤ 65536) :
    Calls Try.prog 6 #[.slice (some ⟨b, o, none⟩) nc cap] w fun e w' => e = .returned (.slice (some ⟨w.heap.size, 0, none⟩) nc nc) ∧ ∃ N gb, Cl w w' nc nc r ln nd N gb := by
  have hq := eql_nil23 w (some ⟨b, o, none⟩) nc cap 0 0
  have hmk := run_make_row' (P := Try.prog) 23 22 (.slice none 0 0) 24 Try.underlying23 Try.info22 rfl .i64 .i64 nc (by omega) (by omega) w
  have HC := Lib.hid hc
  have HR := Lib.hid hr
  clear hc hr
  go_enter Try.func6, Try.ntmps6
  go_wp2
  go_loopw [4] (fun zi wr => ∃ (i : Nat) (N : Nat → Value) (gb : Nat → Nat), zi = .int .i64 i ∧ (i : Int) ≤ nc ∧ Hid (Cl w wr nc i r ln nd N gb)) (fun zi _ => nc - (intOf zi).toNat)
  case atStart =>
    refine ⟨0, fun _ => .slice none 0 0, fun _ => 0, rfl, by omega, (Below.refl _ _).alloc (Nat.le_refl _) _, ?_, fun k hk => absurd hk (by omega), fun k l hk => absurd hk (by omega)⟩
    exact (World.rowIs_made w (.slice none 0 0) nc 22).congr (fun k _ => by simp)
  case round =>
    obtain ⟨i, N, gb, rfl, hi, HK⟩ := hrel
    by_cases hlt : i < nc
    · have b0 : (i : Int) < nc := by omega
      obtain ⟨hrow, hln⟩ := HR.out i hlt
      have g1 : wr.cell? ⟨b, o + i, none⟩ = some (r i) := by rw [HK.out.below.cell (p := ⟨b, o + i, none⟩) hb]; exact HC.out i hlt
      rcases hrow with ⟨e, e0⟩ | ⟨ad, cp, e, hcell⟩
      · rw [e] at g1
        have HF : Hid (Cl w wr nc (i + 1) r ln nd (upd N i (.slice none 0 0)) gb) := HK.out.skip ⟨e, e0⟩
        have hq1 := eql_nil22 wr none 0 0 0 0
        clear e e0 hq hmk
        go_wp2
        go_roundw
        case rel => exact ⟨i + 1, _, _, by go_num, by omega, HF⟩
        case measure => simp [intOf]; omega
      · rw [e] at g1
        have hq1 := eql_nil22 wr (some ad) (ln i) cp 0 0
        have hmk1 := run_make_row' (P := Try.prog) 22 21 (.int .i32 0) 4 Try.underlying22 Try.info21 rfl .i64 .i64 (ln i) (by omega) (by omega) wr
        have HCE := Lib.hid hcell
        obtain ⟨m, hm⟩ : ∃ m, m = ln i := ⟨_, rfl⟩
        rw [← hm] at g1 hq1 hmk1
        have HM := Lib.hid hm
        have hml : (m : Int) ≤ 1048576 := by omega
        obtain ⟨w0, hw0⟩ : ∃ w0, w0 = wr := ⟨_, rfl⟩
        subst hw0
        have hYlt : w.heap.size < w0.heap.size := HK.out.row.lt
        have HG1 := Lib.hid g1
        clear hcell e hq hmk hm
        go_wp2
        go_loopw [6] (fun zj wr => ∃ j : Nat, zj = .int .i64 j ∧ (j : Int) ≤ m ∧ Hid (Below w0.heap.size w0 wr ∧ wr.rowIs w0.heap.size 21 m (fun t => .int .i32 (if t < j then nd i t else 0)))) (fun zj _ => m - (intOf zj).toNat)
        case atStart =>
          exact ⟨0, rfl, by omega, (Below.refl _ _).alloc (Nat.le_refl _) _, (World.rowIs_made w0 (.int .i32 0) m 21).congr (fun k _ => by simp)⟩
        case round =>
          obtain ⟨j, rfl, hj, HJ⟩ := hrel
          have g3 : wr.cell? ⟨b, o + i, none⟩ = some (.slice (some ad) m cp) := by rw [HJ.out.1.cell (p := ⟨b, o + i, none⟩) (Nat.lt_of_lt_of_le hb HK.out.below.size)]; exact HG1.out
          by_cases hjl : j < m
          · have j0 : (j : Int) < m := by omega
            obtain ⟨bb, oo, rfl, hbl, hcl⟩ := HCE.out (by rw [← HM.out]; omega)
            have g4 : wr.cell? ⟨bb, oo + j, none⟩ = some (.int .i32 (nd i j)) := by
              rw [HJ.out.1.cell (p := ⟨bb, oo + j, none⟩) (Nat.lt_of_lt_of_le hbl HK.out.below.size), HK.out.below.cell (p := ⟨bb, oo + j, none⟩) hbl]
              exact hcl j (by rw [← HM.out]; exact hjl)
            have g5 := HJ.out.2.cell (i := j) hjl
            have g6 := HJ.out.2.frozen j
            have HF : Hid (Below w0.heap.size w0 (wr.setCell ⟨w0.heap.size, j, none⟩ (.int .i32 (nd i j))) ∧ (wr.setCell ⟨w0.heap.size, j, none⟩ (.int .i32 (nd i j))).rowIs w0.heap.size 21 m (fun t => .int .i32 (if t < j + 1 then nd i t else 0))) := by
              refine ⟨HJ.out.1.setCell (Nat.le_refl _) _, (HJ.out.2.set j _).congr (fun t _ => ?_)⟩
              by_cases e : t = j
              · subst e; simp
              · rw [if_neg e]
                by_cases h1 : t < j
                · rw [if_pos h1, if_pos (by omega)]
                · rw [if_neg h1, if_neg (by omega)]
            clear hcl
            go_wp2
            go_roundw
            case rel => exact ⟨j + 1, by go_num, by omega, HF⟩
            case measure => simp [intOf]; omega
          · have e1 : j = m := by omega
            subst e1
            have g7 := (HK.out.row.of_block (HJ.out.1.block _ hYlt)).cell (i := i) hlt
            have g8 := (HK.out.row.of_block (HJ.out.1.block _ hYlt)).frozen i
            have HF : Hid (Cl w (wr.setCell ⟨w.heap.size, i, none⟩ (.slice (some ⟨w0.heap.size, 0, none⟩) j j)) nc (i + 1) r ln nd (upd N i (.slice (some ⟨w0.heap.size, 0, none⟩) j j)) (upd gb i w0.heap.size)) := by
              have hz := HJ.out.2
              have := HK.out.add rfl HJ.out.1 hlt (by rw [← HM.out]; exact hz.congr (fun t ht => by rw [if_pos ht]))
              rw [← HM.out] at this
              exact this
            have b3 : ¬ (j : Int) < j := by omega
            go_wp2
            go_roundw
            case rel => exact ⟨i + 1, _, _, by go_num, by omega, HF⟩
            case measure => simp [intOf]; omega
    · have e0 : i = nc := by omega
      subst e0
      go_wp2
      go_ret
      exact ⟨rfl, N, gb, HK.out⟩
end Go.Proofs.Qxb6623286a
