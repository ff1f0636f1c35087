import Derived.Test.Qxb6619248aDoorW2
namespace Go.Proofs.Qxb6619248aDoor
open Go.RowKit
open Pl
open Go.Maps

/-- a map stored into a cell -/
theorem run_store_map {P : Program} (w : World) (a : Addr) (m : Mode) (r : Option Nat) : (store a (.map r) m).run P w = stored P w a (.map r) m := run_store P w a _ m rfl
attribute [local go_sem] run_store_map
theorem relD_nil {V : Nm → Int} (hz : ∀ x, V x = 0) : RelD (.map []) V 0 :=
  ⟨tidy_empty, fun x => by simp [Maps.has, hz x], fun x h => absurd (hz x) h, rfl⟩

set_option maxRecDepth 100000 in
set_option maxHeartbeats 1000000 in
theorem set_found (w : World) (B A n : Nat) (H : List Nm) (V : Nm → Int) (name : Nm) (v : Int) (h : Acc w B A n H V) (hBw : B ≤ w.heap.size) (hname : name.size ≤ maxLen) (hlen : H.length ≤ 5000) (hn : n ≤ 5000) (hv : v ≠ 0) (wv : (Lit.int .i64 v).wf = true) (hx : name ∈ H) :
    Calls Tryd.prog 21 #[.pointer (some ⟨A, 0, none⟩), .string name, .int .i64 v] w fun e w' => e = .returned (.tuple #[]) ∧ Below B w w' ∧ ∃ H', Acc w' B A (n + 1) H' (upd V name v) ∧ H'.length ≤ H.length + 1 := by
  obtain ⟨hA, ⟨m, base, cap, hrow, hheld, hbA, hbal⟩, hs, hm⟩ := h
  have c0 := hrow.cell (i := 0) (by omega)
  have c1 := hrow.cell (i := 1) (by omega)
  simp only [if_true, Nat.one_ne_zero, if_false] at c0 c1
  have hV0 : V name ≠ 0 := (hm name).1 hx
  have hbal0 := hbal
  rcases hbal with ⟨_, hz⟩ | ⟨bm, D, rfl, hBm, hown, hrel⟩
  · exact absurd (hz name) hV0
  clear hown hrel
  have HM : Hid (∀ x, x ∈ H ↔ V x ≠ 0) := hm
  have HX : Hid (name ∈ H) := hx
  have hq := fun (wx : World) => run_eql_map_nil (P := Tryd.prog) wx 24 9 2 (some bm) Tryd.underlying24
  have hv0 : (v == 0) = false := by simpa using hv
  have HV0 : Hid (V name ≠ 0) := hV0
  have Hv : Hid (v ≠ 0) := hv
  clear hm hx hV0 hv
  go_enter Tryd.func21, Tryd.ntmps21
  go_wp2_with fail
  refine (search_any hheld hs (by omega) name).mono ?_
  rintro e w1 ⟨k, fnd, hp, hf, rfl, q, rfl⟩
  obtain rfl : fnd = true := hf.2 HX.out
  clear hf
  obtain ⟨w2, row, hrun, hg, hnr, hrB, hbal2⟩ := store_any (w := w.drewN q) (show BalAt (w.drewN q) B n (.map (some bm)) V H.length from hbal0) name hname v Hv.out wv hn
  have HF : Hid (Below B w w2 ∧ ∃ H', Acc w2 B A (n + 1) H' (upd V name v) ∧ H'.length ≤ H.length + 1) := by
    rw [if_neg HV0.out] at hbal2
    refine ⟨below_grown ((grown_drewN w q row).trans hg) hBw hrB, H, ⟨hA, ⟨_, base, cap, rowIs_grown (show (w.drewN q).rowIs A 46 2 _ from hrow) hg (hnr _ _ _ _ hrow), hheld.grown ((grown_drewN w q row).trans hg) (fun b hb e => ?_), hbA, hbal2⟩, hs, fun y => ?_⟩, by omega⟩
    · obtain ⟨_, t, k', f, hr⟩ := held_row hheld e
      exact hnr b t k' f hr hb.symm
    · by_cases e : name = y
      · subst e; rw [upd_same]; exact ⟨fun _ => Hv.out, fun _ => HX.out⟩
      · rw [upd_other _ _ e]; exact HM.out y
  clear hg hnr hrB hbal2 hrow hheld hbA hbal0 hs hp hA
  go_wp2
  go_end0
  exact ⟨rfl, HF.out⟩

set_option maxRecDepth 100000 in
set_option maxHeartbeats 1000000 in
theorem set_new (w : World) (B A n : Nat) (H : List Nm) (V : Nm → Int) (name : Nm) (v : Int) (h : Acc w B A n H V) (hBw : B ≤ w.heap.size) (hname : name.size ≤ maxLen) (hlen : H.length ≤ 5000) (hn : n ≤ 5000) (hv : v ≠ 0) (wv : (Lit.int .i64 v).wf = true) (hx : name ∉ H) :
    Calls Tryd.prog 21 #[.pointer (some ⟨A, 0, none⟩), .string name, .int .i64 v] w fun e w' => e = .returned (.tuple #[]) ∧ Below B w w' ∧ ∃ H', Acc w' B A (n + 1) H' (upd V name v) ∧ H'.length ≤ H.length + 1 := by
  obtain ⟨hA, ⟨m, base, cap, hrow, hheld, hbA, hbal⟩, hs, hm⟩ := h
  have c0 := hrow.cell (i := 0) (by omega)
  have c1 := hrow.cell (i := 1) (by omega)
  simp only [if_true, Nat.one_ne_zero, if_false] at c0 c1
  have HM : Hid (∀ x, x ∈ H ↔ V x ≠ 0) := hm
  have HX : Hid (name ∉ H) := hx
  have hq := fun (wx : World) (r : Option Nat) => run_eql_map_nil (P := Tryd.prog) wx 24 9 2 r Tryd.underlying24
  have hmm := @run_makeMap Tryd.prog
  have hv0 : (v == 0) = false := by simpa using hv
  have HV0 : Hid (V name = 0) := by
    apply Classical.byContradiction; intro hc; exact hx ((hm name).2 hc)
  have Hv : Hid (v ≠ 0) := hv
  clear hm hx hv
  go_enter Tryd.func21, Tryd.ntmps21
  go_wp2_with fail
  refine (search_any hheld hs (by omega) name).mono ?_
  rintro e w1 ⟨k, fnd, hp, hf, rfl, q, rfl⟩
  obtain rfl : fnd = false := by
    cases fnd
    · rfl
    · exact absurd (hf.1 rfl) HX.out
  clear hf
  go_wp2_with fail
  have hg1 : w.grownBy ((w.drewN q).alloc (.cells #[.string name] 9)) none := (grown_drewN w q none).trans (World.grownBy_alloc _ _ _)
  have hheld1 : HeldAt ((w.drewN q).alloc (.cells #[.string name] 9)) B base cap H := hheld.grown hg1 (fun b hb => by cases hb)
  have hrow1 := rowIs_grown hrow hg1 (by simp)
  have hbal1 := hbal.grown hg1 (fun b hb => by cases hb)
  have hvr : ((w.drewN q).alloc (.cells #[.string name] 9)).rowIs w.heap.size 9 1 (fun _ => .string name) :=
    (rowIs_new (w.drewN q) #[.string name] 9).congr (fun i hi => by
      have : i = 0 := by simpa using hi
      subst this; rfl)
  refine (insert_any hheld1 (by simp; omega) (by omega) name k hp.1 w.heap.size hvr (fun b hb e => ?_)).mono ?_
  · obtain ⟨_, t, k', f, hr⟩ := held_row hheld hb
    have := hr.lt; omega
  rintro e w3 ⟨base', cap', rfl, hg3, hheld3, hbb⟩
  have hne' : blockOf base' ≠ some A := by
    rcases hbb with e | e
    · rw [e]; exact hbA
    · rw [e]; intro hc
      have h1 : ((w.drewN q).alloc (.cells #[.string name] 9)).heap.size = A := by simpa using hc
      have h2 := hrow.lt
      simp at h1; omega
  have hrow3 := rowIs_grown hrow1 hg3 (fun e => hbA e.symm)
  have hbal3 := hbal1.grown hg3 (fun b hb => (held_row hheld1 hb).2)
  have hB3 : Below B w w3 := (below_grown hg1 hBw (fun k hk => by cases hk)).trans (below_grown hg3 (by simp; omega) (fun b hb => (held_row hheld1 hb).1))
  have c0'' := hrow3.cell (i := 0) (by omega)
  have c1'' := hrow3.cell (i := 1) (by omega)
  have f0'' := hrow3.frozen 0
  have f1'' := hrow3.frozen 1
  simp only [if_true, Nat.one_ne_zero, if_false] at c0'' c1''
  have hil : (insAt H k name).length = H.length + 1 := insAt_length hp.1
  have his : (insAt H k name).Pairwise lt := insAt_sorted hs hp HX.out
  obtain ⟨H', eH'⟩ : ∃ H', H' = insAt H k name := ⟨_, rfl⟩
  have HH : Hid (H'.length = H.length + 1 ∧ H'.Pairwise lt ∧ ∀ y, y ∈ H' ↔ y = name ∨ y ∈ H) := by
    rw [eH']; exact ⟨hil, his, fun y => insAt_mem⟩
  rw [← eH'] at hheld3 ⊢
  clear hil his eH' hp hg1 hheld1 hrow1 hbal1 hvr hg3 hbb c0 c1 hrow hheld hbal hs hbA
  -- the slice is stored
  obtain ⟨w4, hw4⟩ : ∃ w4, w4 = w3.setCell ⟨A, 1, none⟩ (.slice base' H'.length cap') := ⟨_, rfl⟩
  have hg4 : w3.grownBy w4 (some A) := by rw [hw4]; exact grown_setCells w3 A 1 [_]
  have hrow4 : w4.rowIs A 46 2 (fun j => if j = 0 then m else .slice base' H'.length cap') := by
    rw [hw4]
    refine (hrow3.set 1 _).congr (fun i hi => ?_)
    by_cases e : i = 0
    · subst e; rfl
    · rw [if_pos (by omega), if_neg e]
  have hheld4 := hheld3.grown hg4 (fun b hb => by cases hb; exact hne')
  have hbal4 := hbal3.grown hg4 (fun b hb => by cases hb; exact ⟨_, _, _, hrow3⟩)
  have hB4 : Below B w w4 := by rw [hw4]; exact hB3.setCell hA _
  rcases hbal4 with ⟨rfl, hz⟩ | ⟨bm, D, rfl, hBm, hown, hrel⟩
  · have hA3 : A < w3.heap.size := hrow3.lt
    have hH0 : H.length = 0 := by
      rw [List.length_eq_zero_iff]
      apply List.eq_nil_iff_forall_not_mem.2
      intro y hy; exact (HM.out y).1 hy (hz y)
    obtain ⟨w5, hw5⟩ : ∃ w5, w5 = (w4.setCell ⟨A, 0, none⟩ (.map (some w3.heap.size))).alloc (.map #[] 0) := ⟨_, rfl⟩
    have hsz4 : (w4.setCell ⟨A, 0, none⟩ (.map (some w3.heap.size))).heap.size = w3.heap.size := by
      rw [World.size_setCell, hw4, World.size_setCell]
    have hbal5 : BalAt w5 B n (.map (some w3.heap.size)) V H.length := by
      have ho := World.ownsMap_made (H := Unit) (w4.setCell ⟨A, 0, none⟩ (.map (some w3.heap.size))) Tryd.prog 9 (plainElem Tryd.prog 2)
      rw [hsz4, ← hw5] at ho
      exact .inr ⟨w3.heap.size, _, rfl, Nat.le_trans hBw hB3.size, ho.mono (Nat.zero_le _), by rw [hH0]; exact relD_nil hz⟩
    have hg5 : w4.grownBy w5 (some A) := by rw [hw5]; exact (grown_setCells w4 A 0 [_]).trans (World.grownBy_alloc _ _ _)
    have hrow5 : w5.rowIs A 46 2 (fun j => if j = 0 then .map (some w3.heap.size) else .slice base' H'.length cap') := by
      rw [hw5]
      refine ((hrow4.set 0 _).congr (fun i hi => ?_)).alloc _
      by_cases e : i = 0
      · subst e; rfl
      · rw [if_neg e, if_neg e, if_neg e]
    have hheld5 := hheld4.grown hg5 (fun b hb => by cases hb; exact hne')
    have hB5 : Below B w w5 := by rw [hw5]; exact (hB4.setCell hA _).alloc (by rw [hsz4]; exact Nat.le_trans hBw hB3.size) _
    obtain ⟨w6, row, hrun, hg6, hnr, hrB, hbal6⟩ := store_any hbal5 name hname v Hv.out wv hn
    have HF : Hid (Below B w w6 ∧ ∃ H', Acc w6 B A (n + 1) H' (upd V name v) ∧ H'.length ≤ H.length + 1) := by
      rw [if_pos HV0.out] at hbal6
      obtain ⟨e1, e2, e3⟩ := HH.out
      refine ⟨hB5.trans (below_grown hg6 (Nat.le_trans hBw hB5.size) hrB), H', ⟨hA, ⟨_, base', cap', rowIs_grown hrow5 hg6 (hnr _ _ _ _ hrow5), hheld5.grown hg6 (fun b hb e => ?_), hne', by rw [e1]; exact hbal6⟩, e2, fun y => ?_⟩, by omega⟩
      · obtain ⟨_, t, k', f, hr⟩ := held_row hheld5 e
        exact hnr b t k' f hr hb.symm
      · rw [e3]
        by_cases e : name = y
        · subst e; rw [upd_same]; exact ⟨fun _ => Hv.out, fun _ => .inl rfl⟩
        · rw [upd_other _ _ e, ← HM.out y]
          exact ⟨fun hc => hc.resolve_left (fun e' => e e'.symm), fun hc => .inr hc⟩
    subst hw5
    subst hw4
    clear hz hg4 hrow4 hheld4 hB4 hrow3 hbal3 hB3 hheld3 hH0 hsz4 hbal5 hg5 hrow5 hheld5 hB5 hg6 hnr hrB hbal6 hne' hA
    generalize H'.length = hl' at *
    go_wp2
    go_end0
    exact ⟨rfl, HF.out⟩
  · obtain ⟨w5, row, hrun, hg5, hnr, hrB, hbal5⟩ := store_any (w := w4) (V := V) (len := H.length) (.inr ⟨bm, D, rfl, hBm, hown, hrel⟩) name hname v Hv.out wv hn
    have HF : Hid (Below B w w5 ∧ ∃ H', Acc w5 B A (n + 1) H' (upd V name v) ∧ H'.length ≤ H.length + 1) := by
      rw [if_pos HV0.out] at hbal5
      obtain ⟨e1, e2, e3⟩ := HH.out
      refine ⟨hB4.trans (below_grown hg5 (Nat.le_trans hBw hB4.size) hrB), H', ⟨hA, ⟨_, base', cap', rowIs_grown hrow4 hg5 (hnr _ _ _ _ hrow4), hheld4.grown hg5 (fun b hb e => ?_), hne', by rw [e1]; exact hbal5⟩, e2, fun y => ?_⟩, by omega⟩
      · obtain ⟨_, t, k', f, hr⟩ := held_row hheld4 e
        exact hnr b t k' f hr hb.symm
      · rw [e3]
        by_cases e : name = y
        · subst e; rw [upd_same]; exact ⟨fun _ => Hv.out, fun _ => .inl rfl⟩
        · rw [upd_other _ _ e, ← HM.out y]
          exact ⟨fun hc => hc.resolve_left (fun e' => e e'.symm), fun hc => .inr hc⟩
    subst hw4
    clear hg4 hrow4 hheld4 hB4 hown hrel hg5 hnr hrB hbal5 hne' hrow3 hbal3 hB3 hheld3 hA
    generalize H'.length = hl' at *
    go_wp2
    go_end0
    exact ⟨rfl, HF.out⟩
end Go.Proofs.Qxb6619248aDoor
